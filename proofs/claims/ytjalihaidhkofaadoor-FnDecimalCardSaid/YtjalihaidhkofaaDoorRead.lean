/- The walk of readFloat at every decimal (a sign or none, 1 to 12 digits, a dot, 1 to 3 digits): its digits' value, their power of ten, the sign; the whole text is read. -/
import Derived.Test.YtjalihaidhkofaaDoorBase
namespace Go.Proofs.YtjalihaidhkofaaDoor.Hand
open Go.RowKit
open Go.Proofs.YtjalihaidhkofaaDoor

theorem low_same (c : Int) (h0 : 46 ≤ c) (h1 : c ≤ 57) : Go.bits .or .u8 c 32 = c := by
  obtain ⟨n, rfl⟩ : ∃ n : Nat, c = n := ⟨c.toNat, by omega⟩
  rcases (show n = 46 ∨ n = 47 ∨ n = 48 ∨ n = 49 ∨ n = 50 ∨ n = 51 ∨ n = 52 ∨ n = 53 ∨ n = 54 ∨ n = 55 ∨ n = 56 ∨ n = 57 by omega) with rfl | rfl | rfl | rfl | rfl | rfl | rfl | rfl | rfl | rfl | rfl | rfl <;> rfl

set_option maxRecDepth 100000 in
theorem lower_same (c : Int) (w : World) (h0 : 46 ≤ c) (h1 : c ≤ 57) : Calls Tryd.prog 64 #[.int .u8 c] w fun e w' => e = .returned (.int .u8 c) ∧ Drawn0 w w' := by
  have hb := low_same c h0 h1
  go_enter Tryd.func64, Tryd.ntmps64
  go_wp2
  go_ret
  exact ⟨rfl, Drawn0.refl _⟩

/-- The value of the digits among n bytes from o on; a dot is passed over. -/
def dv (s : ByteArray) (o : Nat) : Nat → Nat
  | 0 => 0
  | n + 1 => if bt s ((o + n : Nat) : Int) = 46 then dv s o n else dv s o n * 10 + (bt s ((o + n : Nat) : Int) - 48).toNat

theorem dv_dot {s : ByteArray} {o i : Nat} (h : o ≤ i) (hb : bt s (i : Int) = 46) : dv s o (i + 1 - o) = dv s o (i - o) := by
  have e : i + 1 - o = (i - o) + 1 := by omega
  have e2 : o + (i - o) = i := by omega
  rw [e, dv, e2, if_pos hb]
theorem dv_dig {s : ByteArray} {o i : Nat} (h : o ≤ i) (hb : bt s (i : Int) ≠ 46) : dv s o (i + 1 - o) = dv s o (i - o) * 10 + (bt s (i : Int) - 48).toNat := by
  have e : i + 1 - o = (i - o) + 1 := by omega
  have e2 : o + (i - o) = i := by omega
  rw [e, dv, e2, if_neg hb]
theorem dv_lt {s : ByteArray} {o : Nat} : ∀ n : Nat, (∀ i : Nat, o ≤ i → i < o + n → bt s i ≤ 57) → dv s o n < 10 ^ n
  | 0, _ => by simp [dv]
  | n + 1, h => by
    have ih := dv_lt n (fun i h0 h1 => h i h0 (by omega))
    have h9 := h (o + n) (by omega) (by omega)
    rw [dv, Nat.pow_succ]
    split <;> omega

/-- The power of ten of a decimal's digits; of zero it is 0. -/
def expo (s : ByteArray) (v j : Nat) : Int := if v = 0 then 0 else -((s.size - j - 1 : Nat) : Int)

/-- A decimal: a sign or none, digits, a dot at j, one to three digits. -/
structure Dec (s : ByteArray) (o j : Nat) : Prop where
  o1 : o ≤ 1
  minus : o = 1 → bt s 0 = 45
  oj : o < j
  js : j + 1 < s.size
  dot : bt s j = 46
  dig : ∀ i : Nat, o ≤ i → i < s.size → i ≠ j → 48 ≤ bt s i ∧ bt s i ≤ 57
  front : j - o ≤ 12
  back : s.size - j - 1 ≤ 3

/-- What holds at the head of readFloat's loop; gk rounds are to come. -/
def RF (s : ByteArray) (o j gk : Nat) (v2 v5 v7 v9 v13 v14 v15 v16 v17 : Value) : Prop :=
  ∃ (i nd : Nat) (dp : Int), gk = s.size - i ∧ o ≤ i ∧ i ≤ s.size ∧ v2 = .int .u64 (dv s o (i - o) : Nat) ∧ v5 = .bool false ∧ v7 = .int .i64 (i : Nat) ∧ v9 = .bool false ∧
    v13 = .bool (decide (j < i)) ∧ v14 = .bool (decide (o < i)) ∧ v15 = .int .i64 (nd : Nat) ∧ v16 = .int .i64 (nd : Nat) ∧ v17 = .int .i64 dp ∧ nd ≤ i - o ∧
    (nd = 0 → dv s o (i - o) = 0) ∧ (j < i → dp = (nd : Int) - ((i : Int) - j - 1)) ∧ -(i : Int) ≤ dp ∧ dp ≤ 20

set_option maxHeartbeats 4000000 in
set_option maxRecDepth 100000 in
theorem read_plus (s : ByteArray) (j : Nat) (w : World) (hd : Dec s 0 j) :
    Calls Tryd.prog 48 #[.string s] w fun e w' => e = .returned (.tuple #[.int .u64 (dv s 0 s.size), .int .i64 (expo s (dv s 0 s.size) j), .bool false, .bool false, .bool false, .int .i64 s.size, .bool true]) ∧ Drawn0 w w' := by
  obtain ⟨-, -, hoj, hjs, hdot, hdig, hfr, hbk⟩ := hd
  have hsz : s.size ≤ 16 := by omega
  have g0 : 48 ≤ bt s 0 ∧ bt s 0 ≤ 57 := hdig 0 (by omega) (by omega) (by omega)
  have hx : ∀ h : 0 < s.size, ((s[0]'h).toNat : Int) = bt s 0 := bt_at s 0
  have hi0 : ((0 : Int) < s.size) = True := eq_true (by omega)
  have hz : decide ((s.size : Int) ≤ 0) = false := decide_eq_false (by omega)
  have n1 : (bt s 0 == 43) = false := beq_eq_false_iff_ne.mpr (by omega)
  have n2 : (bt s 0 == 45) = false := beq_eq_false_iff_ne.mpr (by omega)
  have hd0 : (0 < s.size) = True := eq_true (by omega)
  have hne : ¬ s = ByteArray.empty := fun e => by rw [e] at hjs; simp at hjs
  have g1 : 46 ≤ bt s 1 ∧ bt s 1 ≤ 57 := by
    by_cases e : j = 1
    · rw [e] at hdot; have : bt s 1 = 46 := hdot; omega
    · have : 48 ≤ bt s 1 ∧ bt s 1 ≤ 57 := hdig 1 (by omega) (by omega) (by omega)
      omega
  have hx1 : ∀ h : 1 < s.size, ((s[1]'h).toNat : Int) = bt s 1 := bt_at s 1
  have hi1 : ((1 : Int) < s.size) = True := eq_true (by omega)
  have hd1 : (1 < s.size) = True := eq_true (by omega)
  have h2 : (2 < s.size) = True := eq_true (by omega)
  have h2i : ((2 : Int) < s.size) = True := eq_true (by omega)
  have n3 : (bt s 1 == 120) = false := beq_eq_false_iff_ne.mpr (by omega)
  have cl := fun w => lower_same (bt s 1) w g1.1 g1.2
  have H := Lib.hid hdig; clear hdig
  have HJ := Lib.hid hjs; clear hjs
  have HF := Lib.hid hfr; clear hfr
  have HB := Lib.hid hbk; clear hbk
  have HO := Lib.hid hoj; clear hoj
  have HD := Lib.hid hdot; clear hdot
  clear g0 g1
  by_cases hz0 : bt s 0 = 48
  all_goals
    go_enter Tryd.func48, Tryd.ntmps48
    go_wp2_with fail
    go_step3
    go_wp2_with (first | (go_at_call 64; refine (cl _).mono ?_; rintro e w' ⟨rfl, ⟨nd, rfl⟩⟩))
    go_step3
    go_wp2_with fail
    go_loopg [2, 5, 7, 9, 13, 14, 15, 16, 17] s.size (fun gk v2 v5 v7 v9 v13 v14 v15 v16 v17 w' => RF s 0 j gk v2 v5 v7 v9 v13 v14 v15 v16 v17 ∧ Drawn0 w w')
    case atStart => exact ⟨⟨0, 0, 0, by omega, by omega, by omega, rfl, rfl, rfl, rfl, by simp, by simp, rfl, rfl, rfl, by omega, fun _ => rfl, by omega, by omega, by omega⟩, by repeat (first | exact Drawn0.refl _ | apply Drawn0.step)⟩
    case round =>
      obtain ⟨⟨i, nd, dp, hg, hoi, his, rfl, rfl, rfl, rfl, rfl, rfl, rfl, rfl, rfl, hnd, hz, hdp, hd1, hd2⟩, ⟨nw, rfl⟩⟩ := hrel
      clear hx hi0 n1 n2 hd0 hne hx1 hi1 h2 h2i n3 cl hz0
      have hbd : dv s 0 (i - 0) < 10 ^ 16 := Nat.lt_of_lt_of_le (dv_lt (i - 0) (fun q h0 h1 => by
        by_cases e : q = j
        · rw [e, HD.out]; decide
        · exact (H.out q h0 (by omega) e).2)) (Nat.pow_le_pow_right (by omega) (by omega))
      obtain ⟨man, hman⟩ : ∃ man, dv s 0 (i - 0) = man := ⟨_, rfl⟩
      rw [hman] at hbd hz ⊢
      have HM := Lib.hid hman; clear hman
      have HZ := Lib.hid hz; clear hz
      have HP := Lib.hid hdp; clear hdp
      have HG := Lib.hid hg; clear hg
      by_cases hlt : i < s.size
      · have hx : ∀ h : i < s.size, ((s[i]'h).toNat : Int) = bt s i := bt_at s i
        have qi : ((i : Int) < s.size) = True := eq_true (by omega)
        by_cases hij : i = j
        · have hc := HD.out
          rw [← hij] at hc
          have e13 : decide (j < i) = false := decide_eq_false (by omega)
          rw [e13]
          rw [hc] at hx
          have HC := Lib.hid hc; clear hc
          have HI := Lib.hid hij; clear hij
          have q := eq_true hlt
          clear hlt
          go_wp2
          go_roundg (s.size - (i + 1))
          case measure => have := q.mpr trivial; have := HG.out; omega
          case rel =>
            have hlt := q.mpr trivial
            have hij := HI.out
            refine ⟨⟨i + 1, nd, (nd : Int), rfl, by omega, by omega, ?_, rfl, by go_num, rfl, ?_, ?_, rfl, rfl, rfl, by omega, ?_, by omega, by omega, by omega⟩, by repeat (first | exact Drawn0.refl _ | apply Drawn0.step)⟩
            · rw [dv_dot hoi HC.out, HM.out]
            · rw [decide_eq_true (show j < i + 1 by omega)]
            · rw [decide_eq_true (show 0 < i + 1 by omega)]; simp only [decide_eq_true (show 0 < i by have := HO.out; omega)]
            · rw [dv_dot hoi HC.out, HM.out]; exact HZ.out
        · have hc := H.out i (by omega) hlt hij
          obtain ⟨c, hcc⟩ : ∃ c, bt s i = c := ⟨_, rfl⟩
          rw [hcc] at hc hx
          have HC := Lib.hid hcc; clear hcc
          have n1 : (c == 95) = false := beq_eq_false_iff_ne.mpr (by omega)
          have n2 : (c == 46) = false := beq_eq_false_iff_ne.mpr (by omega)
          have n3 : decide (48 ≤ c) = true := decide_eq_true hc.1
          have n4 : decide (c ≤ 57) = true := decide_eq_true hc.2
          have HI := Lib.hid hij; clear hij
          have q := eq_true hlt
          clear hlt
          by_cases hji : j < i
          all_goals
            first | rw [decide_eq_true hji] | rw [decide_eq_false hji]
            by_cases h48 : c = 48 ∧ nd = 0
            · obtain ⟨rfl, rfl⟩ := h48
              have HJI := Lib.hid hji; clear hji
              go_wp2
              go_roundg (s.size - (i + 1))
              case measure => have := q.mpr trivial; have := HG.out; omega
              case rel =>
                have hlt := q.mpr trivial
                have hm0 : man = 0 := HZ.out trivial
                have hji := HJI.out
                refine ⟨⟨i + 1, 0, dp - 1, rfl, by omega, by omega, ?_, rfl, by go_num, rfl, ?_, ?_, rfl, rfl, rfl, by omega, ?_, ?_, by omega, by omega⟩, by repeat (first | exact Drawn0.refl _ | apply Drawn0.step)⟩
                · rw [dv_dig hoi (by rw [HC.out]; decide), HM.out, HC.out, hm0]; rfl
                · first | rw [decide_eq_true (show j < i + 1 by omega)] | rw [decide_eq_false (show ¬ j < i + 1 by have := HI.out; omega)]
                · rw [decide_eq_true (show 0 < i + 1 by omega)]
                · intro _; rw [dv_dig hoi (by rw [HC.out]; decide), HM.out, HC.out, hm0]; rfl
                · intro h; have := HI.out; have := HP.out (by omega); omega
            · have h19 : decide ((nd : Int) < 19) = true := decide_eq_true (by omega)
              have HN := Lib.hid h48; clear h48
              have HJI := Lib.hid hji; clear hji
              by_cases hc48 : c = 48
              · have hn0 : ((nd : Int) == 0) = false := beq_eq_false_iff_ne.mpr (fun e => HN.out ⟨hc48, by omega⟩)
                obtain rfl := hc48
                go_wp2
                go_roundg (s.size - (i + 1))
                case measure => have := q.mpr trivial; have := HG.out; omega
                case rel =>
                  have hlt := q.mpr trivial
                  have hji := HJI.out
                  refine ⟨⟨i + 1, nd + 1, dp, rfl, by omega, by omega, ?_, rfl, by go_num, rfl, ?_, ?_, by go_num, by go_num, rfl, by omega, by omega, ?_, by omega, by omega⟩, by repeat (first | exact Drawn0.refl _ | apply Drawn0.step)⟩
                  · rw [dv_dig hoi (by rw [HC.out]; omega), HM.out, HC.out]; first | rfl | (congr 1; omega)
                  · first | rw [decide_eq_true (show j < i + 1 by omega)] | rw [decide_eq_false (show ¬ j < i + 1 by have := HI.out; omega)]
                  · rw [decide_eq_true (show 0 < i + 1 by omega)]
                  · intro h; have := HI.out; have := HP.out (by omega); omega
              · have hcb : (c == 48) = false := beq_eq_false_iff_ne.mpr hc48
                have H48 := Lib.hid hc48; clear hc48
                go_wp2
                go_roundg (s.size - (i + 1))
                case measure => have := q.mpr trivial; have := HG.out; omega
                case rel =>
                  have hlt := q.mpr trivial
                  have hji := HJI.out
                  refine ⟨⟨i + 1, nd + 1, dp, rfl, by omega, by omega, ?_, rfl, by go_num, rfl, ?_, ?_, by go_num, by go_num, rfl, by omega, by omega, ?_, by omega, by omega⟩, by repeat (first | exact Drawn0.refl _ | apply Drawn0.step)⟩
                  · rw [dv_dig hoi (by rw [HC.out]; omega), HM.out, HC.out]; first | rfl | (congr 1; omega)
                  · first | rw [decide_eq_true (show j < i + 1 by omega)] | rw [decide_eq_false (show ¬ j < i + 1 by have := HI.out; omega)]
                  · rw [decide_eq_true (show 0 < i + 1 by omega)]
                  · intro h; have := HI.out; have := HP.out (by omega); omega
      · have hi : i = s.size := by omega
        have hle : decide (s.size < s.size) = false := by simp
        have e1 : decide (j < i) = true := decide_eq_true (by have := HJ.out; omega)
        have e2 : decide (0 < i) = true := decide_eq_true (by have := HJ.out; omega)
        rw [e1, e2]
        have hdp := HP.out (by have := HJ.out; omega)
        have hex : dp - (nd : Int) = -((s.size - j - 1 : Nat) : Int) := by have := HJ.out; omega
        have HI := Lib.hid hi; clear hi
        have HX := Lib.hid hex; clear hex
        clear hdp e1 e2
        have hni : ((i : Int) < s.size) = False := eq_false (by omega)
        have hnn : (i < s.size) = False := eq_false hlt
        clear hlt
        by_cases hm : man = 0
        · subst hm
          go_wp2
          try rw [Exit.noGoto_ret]
          refine bodyPost_ret (v := .tuple #[.int .u64 (0 : Nat), .int .i64 0, .bool false, .bool false, .bool false, .int .i64 i, .bool true]) (by simp [results, Tryd.results48, go_sem]) rfl ⟨?_, by repeat (first | exact Drawn0.refl _ | apply Drawn0.step)⟩
          have hi := HI.out
          have hv : dv s 0 s.size = 0 := by have := HM.out; rw [hi] at this; exact this
          rw [hv, hi]; rfl
        · have hmb : ((man : Int) != 0) = true := bne_iff_ne.mpr (by omega)
          have HMM := Lib.hid hm; clear hm
          go_wp2
          try rw [Exit.noGoto_ret]
          refine bodyPost_ret (v := .tuple #[.int .u64 (man : Nat), .int .i64 (dp - nd), .bool false, .bool false, .bool false, .int .i64 i, .bool true]) (by simp [results, Tryd.results48, go_sem]) rfl ⟨?_, by repeat (first | exact Drawn0.refl _ | apply Drawn0.step)⟩
          have hi := HI.out
          have hv : dv s 0 s.size = man := by have := HM.out; rw [hi] at this; exact this
          rw [hv, hi, expo, if_neg HMM.out, HX.out]

set_option maxHeartbeats 4000000 in
set_option maxRecDepth 100000 in
theorem read_minus (s : ByteArray) (j : Nat) (w : World) (hd : Dec s 1 j) :
    Calls Tryd.prog 48 #[.string s] w fun e w' => e = .returned (.tuple #[.int .u64 (dv s 1 (s.size - 1)), .int .i64 (expo s (dv s 1 (s.size - 1)) j), .bool true, .bool false, .bool false, .int .i64 s.size, .bool true]) ∧ Drawn0 w w' := by
  obtain ⟨-, hmin, hoj, hjs, hdot, hdig, hfr, hbk⟩ := hd
  have hsz : s.size ≤ 17 := by omega
  have hmi := hmin rfl
  have hx : ∀ h : 0 < s.size, ((s[0]'h).toNat : Int) = 45 := fun h => (bt_at s 0 h).trans hmi
  clear hmi hmin
  have hi0 : ((0 : Int) < s.size) = True := eq_true (by omega)
  have hd0 : (0 < s.size) = True := eq_true (by omega)
  have hne : ¬ s = ByteArray.empty := fun e => by rw [e] at hjs; simp at hjs
  have g0 : 48 ≤ bt s 1 ∧ bt s 1 ≤ 57 := hdig 1 (by omega) (by omega) (by omega)
  have g1 : 46 ≤ bt s 2 ∧ bt s 2 ≤ 57 := by
    by_cases e : j = 2
    · rw [e] at hdot; have : bt s 2 = 46 := hdot; omega
    · have : 48 ≤ bt s 2 ∧ bt s 2 ≤ 57 := hdig 2 (by omega) (by omega) (by omega)
      omega
  have hx0 : ∀ h : 1 < s.size, ((s[1]'h).toNat : Int) = bt s 1 := bt_at s 1
  have hx1 : ∀ h : 2 < s.size, ((s[2]'h).toNat : Int) = bt s 2 := bt_at s 2
  have hi1 : ((1 : Int) < s.size) = True := eq_true (by omega)
  have hd1 : (1 < s.size) = True := eq_true (by omega)
  have h2 : (2 < s.size) = True := eq_true (by omega)
  have h2i : ((2 : Int) < s.size) = True := eq_true (by omega)
  have h3 : (3 < s.size) = True := eq_true (by omega)
  have h3i : ((3 : Int) < s.size) = True := eq_true (by omega)
  have n3 : (bt s 2 == 120) = false := beq_eq_false_iff_ne.mpr (by omega)
  have cl := fun w => lower_same (bt s 2) w g1.1 g1.2
  have H := Lib.hid hdig; clear hdig
  have HJ := Lib.hid hjs; clear hjs
  have HF := Lib.hid hfr; clear hfr
  have HB := Lib.hid hbk; clear hbk
  have HO := Lib.hid hoj; clear hoj
  have HD := Lib.hid hdot; clear hdot
  clear g0 g1
  by_cases hz0 : bt s 1 = 48
  all_goals
    go_enter Tryd.func48, Tryd.ntmps48
    go_wp2_with fail
    go_step3
    go_wp2_with (first | (go_at_call 64; refine (cl _).mono ?_; rintro e w' ⟨rfl, ⟨nd, rfl⟩⟩))
    go_step3
    go_wp2_with fail
    go_loopg [2, 5, 7, 9, 13, 14, 15, 16, 17] (s.size - 1) (fun gk v2 v5 v7 v9 v13 v14 v15 v16 v17 w' => RF s 1 j gk v2 v5 v7 v9 v13 v14 v15 v16 v17 ∧ Drawn0 w w')
    case atStart => exact ⟨⟨1, 0, 0, by omega, by omega, by have := HJ.out; omega, rfl, rfl, rfl, rfl, by rw [decide_eq_false (show ¬ j < 1 by have := HO.out; omega)], by simp, rfl, rfl, rfl, by omega, fun _ => rfl, by omega, by omega, by omega⟩, by repeat (first | exact Drawn0.refl _ | apply Drawn0.step)⟩
    case round =>
      obtain ⟨⟨i, nd, dp, hg, hoi, his, rfl, rfl, rfl, rfl, rfl, rfl, rfl, rfl, rfl, hnd, hz, hdp, hd1, hd2⟩, ⟨nw, rfl⟩⟩ := hrel
      clear hx hi0 hd0 hne hx0 hx1 hi1 h2 h2i h3 h3i n3 cl hz0
      have hbd : dv s 1 (i - 1) < 10 ^ 16 := Nat.lt_of_lt_of_le (dv_lt (i - 1) (fun q h0 h1 => by
        by_cases e : q = j
        · rw [e, HD.out]; decide
        · exact (H.out q h0 (by omega) e).2)) (Nat.pow_le_pow_right (by omega) (by omega))
      obtain ⟨man, hman⟩ : ∃ man, dv s 1 (i - 1) = man := ⟨_, rfl⟩
      rw [hman] at hbd hz ⊢
      have HM := Lib.hid hman; clear hman
      have HZ := Lib.hid hz; clear hz
      have HP := Lib.hid hdp; clear hdp
      have HG := Lib.hid hg; clear hg
      by_cases hlt : i < s.size
      · have hx : ∀ h : i < s.size, ((s[i]'h).toNat : Int) = bt s i := bt_at s i
        have qi : ((i : Int) < s.size) = True := eq_true (by omega)
        by_cases hij : i = j
        · have hc := HD.out
          rw [← hij] at hc
          have e13 : decide (j < i) = false := decide_eq_false (by omega)
          rw [e13]
          rw [hc] at hx
          have HC := Lib.hid hc; clear hc
          have HI := Lib.hid hij; clear hij
          have q := eq_true hlt
          clear hlt
          go_wp2
          go_roundg (s.size - (i + 1))
          case measure => have := q.mpr trivial; have := HG.out; omega
          case rel =>
            have hlt := q.mpr trivial
            have hij := HI.out
            refine ⟨⟨i + 1, nd, (nd : Int), rfl, by omega, by omega, ?_, rfl, by go_num, rfl, ?_, ?_, rfl, rfl, rfl, by omega, ?_, by omega, by omega, by omega⟩, by repeat (first | exact Drawn0.refl _ | apply Drawn0.step)⟩
            · rw [dv_dot hoi HC.out, HM.out]
            · rw [decide_eq_true (show j < i + 1 by omega)]
            · rw [decide_eq_true (show 1 < i + 1 by omega)]; simp only [decide_eq_true (show 1 < i by have := HO.out; omega)]
            · rw [dv_dot hoi HC.out, HM.out]; exact HZ.out
        · have hc := H.out i (by omega) hlt hij
          obtain ⟨c, hcc⟩ : ∃ c, bt s i = c := ⟨_, rfl⟩
          rw [hcc] at hc hx
          have HC := Lib.hid hcc; clear hcc
          have n1 : (c == 95) = false := beq_eq_false_iff_ne.mpr (by omega)
          have n2 : (c == 46) = false := beq_eq_false_iff_ne.mpr (by omega)
          have n3 : decide (48 ≤ c) = true := decide_eq_true hc.1
          have n4 : decide (c ≤ 57) = true := decide_eq_true hc.2
          have HI := Lib.hid hij; clear hij
          have q := eq_true hlt
          clear hlt
          by_cases hji : j < i
          all_goals
            first | rw [decide_eq_true hji] | rw [decide_eq_false hji]
            by_cases h48 : c = 48 ∧ nd = 0
            · obtain ⟨rfl, rfl⟩ := h48
              have HJI := Lib.hid hji; clear hji
              go_wp2
              go_roundg (s.size - (i + 1))
              case measure => have := q.mpr trivial; have := HG.out; omega
              case rel =>
                have hlt := q.mpr trivial
                have hm0 : man = 0 := HZ.out trivial
                have hji := HJI.out
                refine ⟨⟨i + 1, 0, dp - 1, rfl, by omega, by omega, ?_, rfl, by go_num, rfl, ?_, ?_, rfl, rfl, rfl, by omega, ?_, ?_, by omega, by omega⟩, by repeat (first | exact Drawn0.refl _ | apply Drawn0.step)⟩
                · rw [dv_dig hoi (by rw [HC.out]; decide), HM.out, HC.out, hm0]; rfl
                · first | rw [decide_eq_true (show j < i + 1 by omega)] | rw [decide_eq_false (show ¬ j < i + 1 by have := HI.out; omega)]
                · rw [decide_eq_true (show 1 < i + 1 by omega)]
                · intro _; rw [dv_dig hoi (by rw [HC.out]; decide), HM.out, HC.out, hm0]; rfl
                · intro h; have := HI.out; have := HP.out (by omega); omega
            · have h19 : decide ((nd : Int) < 19) = true := decide_eq_true (by omega)
              have HN := Lib.hid h48; clear h48
              have HJI := Lib.hid hji; clear hji
              by_cases hc48 : c = 48
              · have hn0 : ((nd : Int) == 0) = false := beq_eq_false_iff_ne.mpr (fun e => HN.out ⟨hc48, by omega⟩)
                obtain rfl := hc48
                go_wp2
                go_roundg (s.size - (i + 1))
                case measure => have := q.mpr trivial; have := HG.out; omega
                case rel =>
                  have hlt := q.mpr trivial
                  have hji := HJI.out
                  refine ⟨⟨i + 1, nd + 1, dp, rfl, by omega, by omega, ?_, rfl, by go_num, rfl, ?_, ?_, by go_num, by go_num, rfl, by omega, by omega, ?_, by omega, by omega⟩, by repeat (first | exact Drawn0.refl _ | apply Drawn0.step)⟩
                  · rw [dv_dig hoi (by rw [HC.out]; omega), HM.out, HC.out]; first | rfl | (congr 1; omega)
                  · first | rw [decide_eq_true (show j < i + 1 by omega)] | rw [decide_eq_false (show ¬ j < i + 1 by have := HI.out; omega)]
                  · rw [decide_eq_true (show 1 < i + 1 by omega)]
                  · intro h; have := HI.out; have := HP.out (by omega); omega
              · have hcb : (c == 48) = false := beq_eq_false_iff_ne.mpr hc48
                have H48 := Lib.hid hc48; clear hc48
                go_wp2
                go_roundg (s.size - (i + 1))
                case measure => have := q.mpr trivial; have := HG.out; omega
                case rel =>
                  have hlt := q.mpr trivial
                  have hji := HJI.out
                  refine ⟨⟨i + 1, nd + 1, dp, rfl, by omega, by omega, ?_, rfl, by go_num, rfl, ?_, ?_, by go_num, by go_num, rfl, by omega, by omega, ?_, by omega, by omega⟩, by repeat (first | exact Drawn0.refl _ | apply Drawn0.step)⟩
                  · rw [dv_dig hoi (by rw [HC.out]; omega), HM.out, HC.out]; first | rfl | (congr 1; omega)
                  · first | rw [decide_eq_true (show j < i + 1 by omega)] | rw [decide_eq_false (show ¬ j < i + 1 by have := HI.out; omega)]
                  · rw [decide_eq_true (show 1 < i + 1 by omega)]
                  · intro h; have := HI.out; have := HP.out (by omega); omega
      · have hi : i = s.size := by omega
        have hle : decide (s.size < s.size) = false := by simp
        have e1 : decide (j < i) = true := decide_eq_true (by have := HJ.out; omega)
        have e2 : decide (1 < i) = true := decide_eq_true (by have := HJ.out; omega)
        rw [e1, e2]
        have hdp := HP.out (by have := HJ.out; omega)
        have hex : dp - (nd : Int) = -((s.size - j - 1 : Nat) : Int) := by have := HJ.out; omega
        have HI := Lib.hid hi; clear hi
        have HX := Lib.hid hex; clear hex
        clear hdp e1 e2
        have hni : ((i : Int) < s.size) = False := eq_false (by omega)
        have hnn : (i < s.size) = False := eq_false hlt
        clear hlt
        by_cases hm : man = 0
        · subst hm
          go_wp2
          try rw [Exit.noGoto_ret]
          refine bodyPost_ret (v := .tuple #[.int .u64 (0 : Nat), .int .i64 0, .bool true, .bool false, .bool false, .int .i64 i, .bool true]) (by simp [results, Tryd.results48, go_sem]) rfl ⟨?_, by repeat (first | exact Drawn0.refl _ | apply Drawn0.step)⟩
          have hi := HI.out
          have hv : dv s 1 (s.size - 1) = 0 := by have := HM.out; rw [hi] at this; exact this
          rw [hv, hi]; rfl
        · have hmb : ((man : Int) != 0) = true := bne_iff_ne.mpr (by omega)
          have HMM := Lib.hid hm; clear hm
          go_wp2
          try rw [Exit.noGoto_ret]
          refine bodyPost_ret (v := .tuple #[.int .u64 (man : Nat), .int .i64 (dp - nd), .bool true, .bool false, .bool false, .int .i64 i, .bool true]) (by simp [results, Tryd.results48, go_sem]) rfl ⟨?_, by repeat (first | exact Drawn0.refl _ | apply Drawn0.step)⟩
          have hi := HI.out
          have hv : dv s 1 (s.size - 1) = man := by have := HM.out; rw [hi] at this; exact this
          rw [hv, hi, expo, if_neg HMM.out, HX.out]
end Go.Proofs.YtjalihaidhkofaaDoor.Hand
