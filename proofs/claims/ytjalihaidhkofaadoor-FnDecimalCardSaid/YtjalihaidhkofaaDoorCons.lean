/- The walks of consumeIntegerOrDecimal at every text (what it takes and what it leaves), of zzContains at a text with a dot, of ParseDecimal and of the thin package's Decimal. -/
import Derived.Test.YtjalihaidhkofaaDoorBase
import Derived.Test.YtjalihaidhkofaaDoorHand
namespace Go.Proofs.YtjalihaidhkofaaDoor.Hand
open Go.RowKit
open Go.Proofs.YtjalihaidhkofaaDoor

set_option maxRecDepth 100000 in
theorem isDigit_yes (c : Int) (w : World) (h0 : 48 ≤ c) (h1 : c ≤ 57) : Calls Tryd.prog 32 #[.int .u8 c] w fun e w' => e = .returned (.bool true) ∧ Drawn0 w w' := by
  have d0 : decide (48 ≤ c) = true := decide_eq_true h0
  have d1 : decide (c ≤ 57) = true := decide_eq_true h1
  go_enter Tryd.func32, Tryd.ntmps32
  go_wp2
  go_ret
  exact ⟨rfl, Drawn0.refl _⟩
set_option maxRecDepth 100000 in
theorem isDigit_no (c : Int) (w : World) (h : c < 48 ∨ 57 < c) : Calls Tryd.prog 32 #[.int .u8 c] w fun e w' => e = .returned (.bool false) ∧ Drawn0 w w' := by
  rcases h with h | h
  · have d0 : decide (48 ≤ c) = false := decide_eq_false (by omega)
    go_enter Tryd.func32, Tryd.ntmps32
    go_wp2
    go_ret
    exact ⟨rfl, Drawn0.refl _⟩
  · have d0 : decide (48 ≤ c) = true := decide_eq_true (by omega)
    have d1 : decide (c ≤ 57) = false := decide_eq_false (by omega)
    go_enter Tryd.func32, Tryd.ntmps32
    go_wp2
    go_ret
    exact ⟨rfl, Drawn0.refl _⟩

/-- A run of digits from i to j. -/
structure Run (s : ByteArray) (i j : Nat) : Prop where
  le : i ≤ j
  size : j ≤ s.size
  dig : ∀ q : Nat, i ≤ q → q < j → 48 ≤ bt s q ∧ bt s q ≤ 57
  stop : j < s.size → bt s j < 48 ∨ 57 < bt s j

theorem run_exists (s : ByteArray) (d : Nat) : ∀ i, i ≤ s.size → s.size - i = d → ∃ j, Run s i j := by
  induction d with
  | zero => intro i h0 h1; exact ⟨i, Nat.le_refl _, h0, fun q _ _ => by omega, fun h => by omega⟩
  | succ d ih =>
    intro i h0 h1
    by_cases h : 48 ≤ bt s i ∧ bt s i ≤ 57
    · obtain ⟨j, hj⟩ := ih (i + 1) (by omega) (by omega)
      refine ⟨j, by have := hj.le; omega, hj.size, fun q a b => ?_, hj.stop⟩
      by_cases e : q = i
      · rw [e]; exact h
      · exact hj.dig q (by omega) b
    · exact ⟨i, Nat.le_refl _, h0, fun q _ _ => by omega, fun _ => by omega⟩

/-- What consumeIntegerOrDecimal answers where the digits end at j and, behind a dot at j, at k. -/
def outC (s : ByteArray) (o j k : Nat) : ByteArray × ByteArray × Bool :=
  if j < s.size ∧ bt s j = 46 then
    if 12 < j - o ∨ 16 < k - o ∨ k = j + 1 ∨ 3 < k - j - 1 then (⟨#[]⟩, s, false) else (s.extract 0 k, s.extract k s.size, true)
  else if 15 < j - o then (⟨#[]⟩, s, false) else (s.extract 0 j, s.extract j s.size, true)

theorem outC_fail_dot {s : ByteArray} {o j k : Nat} (h0 : j < s.size) (h1 : bt s j = 46) (h : 12 < j - o ∨ 16 < k - o ∨ k = j + 1 ∨ 3 < k - j - 1) : outC s o j k = (⟨#[]⟩, s, false) := by
  rw [outC, if_pos ⟨h0, h1⟩, if_pos h]
theorem outC_ok_dot {s : ByteArray} {o j k : Nat} (h0 : j < s.size) (h1 : bt s j = 46) (h : ¬ (12 < j - o ∨ 16 < k - o ∨ k = j + 1 ∨ 3 < k - j - 1)) : outC s o j k = (s.extract 0 k, s.extract k s.size, true) := by
  rw [outC, if_pos ⟨h0, h1⟩, if_neg h]
theorem outC_fail_int {s : ByteArray} {o j k : Nat} (h0 : ¬ (j < s.size ∧ bt s j = 46)) (h : 15 < j - o) : outC s o j k = (⟨#[]⟩, s, false) := by
  rw [outC, if_neg h0, if_pos h]
theorem outC_ok_int {s : ByteArray} {o j k : Nat} (h0 : ¬ (j < s.size ∧ bt s j = 46)) (h : ¬ 15 < j - o) : outC s o j k = (s.extract 0 j, s.extract j s.size, true) := by
  rw [outC, if_neg h0, if_neg h]

/-- What holds at the head of the loop of consumeIntegerOrDecimal; gk rounds are to come; j is the first place behind the digits; k the first behind the digits that follow a dot at j. -/
def RC (s : ByteArray) (o j k gk : Nat) (v5 v7 v8 : Value) : Prop :=
  ∃ i : Nat, gk = s.size - i ∧ v5 = .int .i64 (i : Nat) ∧
    ((v7 = .int .i64 0 ∧ v8 = .bool false ∧ o ≤ i ∧ i ≤ j) ∨ (v7 = .int .i64 (j : Nat) ∧ v8 = .bool true ∧ j < i ∧ i ≤ k ∧ j < s.size ∧ bt s j = 46 ∧ j - o ≤ 12))

set_option maxHeartbeats 4000000 in
set_option maxRecDepth 100000 in
theorem consume_plus (s : ByteArray) (j k : Nat) (w : World) (hs : s.size ≤ 2147483647) (r1 : Run s 0 j) (hj : 0 < j) (r2 : j < s.size → Run s (j + 1) k) :
    Calls Tryd.prog 23 #[.string s] w fun e w' => e = .returned (.tuple #[.string (outC s 0 j k).1, .string (outC s 0 j k).2.1, .bool (outC s 0 j k).2.2]) ∧ Drawn0 w w' := by
  obtain ⟨_, hjs, hd, hst⟩ := r1
  have g0 : 48 ≤ bt s 0 ∧ bt s 0 ≤ 57 := hd 0 (by omega) (by omega)
  have hx0 : ∀ h : 0 < s.size, ((s[0]'h).toNat : Int) = bt s 0 := bt_at s 0
  have hi0 : ((0 : Int) < s.size) = True := eq_true (by omega)
  have hd0 : (0 < s.size) = True := eq_true (by omega)
  have n0 : (bt s 0 == 45) = false := beq_eq_false_iff_ne.mpr (by omega)
  have hne : ¬ s = ByteArray.empty := fun e => by rw [e] at hjs; simp at hjs; omega
  have c0 := fun w => isDigit_yes (bt s 0) w g0.1 g0.2
  clear g0
  have HD := Lib.hid hd; clear hd
  have HST := Lib.hid hst; clear hst
  have HR := Lib.hid r2; clear r2
  have HJ := Lib.hid hj; clear hj
  have HJS := Lib.hid hjs; clear hjs
  go_enter Tryd.func23, Tryd.ntmps23
  go_wp2_with (first | (go_at_call 32; refine (c0 _).mono ?_; rintro e w' ⟨rfl, ⟨nd, rfl⟩⟩))
  go_loopg [5, 7, 8] s.size (fun gk v5 v7 v8 w' => RC s 0 j k gk v5 v7 v8 ∧ Drawn0 w w')
  case atStart => exact ⟨⟨0, rfl, rfl, Or.inl ⟨rfl, rfl, Nat.le_refl _, Nat.zero_le _⟩⟩, by repeat (first | exact Drawn0.refl _ | apply Drawn0.step)⟩
  case round =>
    clear hx0 hi0 hd0 n0 hne c0
    obtain ⟨⟨i, hg, rfl, hA | hB⟩, ⟨nw, rfl⟩⟩ := hrel
    · obtain ⟨rfl, rfl, hoi, hij⟩ := hA
      have HG := Lib.hid hg; clear hg
      have hib : i ≤ 2147483647 := by have := HJS.out; omega
      by_cases hlt : i < j
      · have hd := HD.out i (by omega) hlt
        have his : i < s.size := by have := HJS.out; omega
        have hx : ∀ h : i < s.size, ((s[i]'h).toNat : Int) = bt s i := bt_at s i
        have qi : ((i : Int) < s.size) = True := eq_true (by omega)
        have q : (i < s.size) = True := eq_true his
        have ci := fun w => isDigit_yes (bt s i) w hd.1 hd.2
        clear hd his
        have HL := Lib.hid hlt; clear hlt
        go_wp2_with (first | (go_at_call 32; refine (ci _).mono ?_; rintro e w' ⟨rfl, ⟨nd, rfl⟩⟩))
        go_roundg (s.size - (i + 1))
        case measure => have := HL.out; have := HJS.out; have := HG.out; omega
        case rel => exact ⟨⟨i + 1, rfl, by go_num, Or.inl ⟨rfl, rfl, by omega, HL.out⟩⟩, by repeat (first | exact Drawn0.refl _ | apply Drawn0.step)⟩
      · have hi : i = j := by omega
        subst hi
        clear hlt hij hoi
        by_cases his : i < s.size
        · have hst := HST.out his
          have hx : ∀ h : i < s.size, ((s[i]'h).toNat : Int) = bt s i := bt_at s i
          have qi : ((i : Int) < s.size) = True := eq_true (by omega)
          have q : (i < s.size) = True := eq_true his
          have ci := fun w => isDigit_no (bt s i) w hst
          clear hst
          have HIS := Lib.hid his; clear his
          by_cases hdot : bt s i = 46
          · have nb : (bt s i == 46) = true := beq_iff_eq.mpr hdot
            have HDOT := Lib.hid hdot; clear hdot
            by_cases h12 : 12 < i
            · have d12 : decide (12 < (i : Int)) = true := decide_eq_true (by omega)
              have H12 := Lib.hid h12; clear h12
              go_wp2_with (first | (go_at_call 32; refine (ci _).mono ?_; rintro e w' ⟨rfl, ⟨nd, rfl⟩⟩))
              go_ret3
              exact ⟨by rw [outC_fail_dot HIS.out HDOT.out (Or.inl H12.out)]; rfl, by repeat (first | exact Drawn0.refl _ | apply Drawn0.step)⟩
            · have d12 : decide (12 < (i : Int)) = false := decide_eq_false (by omega)
              have H12 := Lib.hid h12; clear h12
              go_wp2_with (first | (go_at_call 32; refine (ci _).mono ?_; rintro e w' ⟨rfl, ⟨nd, rfl⟩⟩))
              go_roundg (s.size - (i + 1))
              case measure => have := HIS.out; have := HG.out; omega
              case rel => exact ⟨⟨i + 1, rfl, by go_num, Or.inr ⟨rfl, rfl, by omega, (HR.out HIS.out).le, HIS.out, HDOT.out, by have := H12.out; omega⟩⟩, by repeat (first | exact Drawn0.refl _ | apply Drawn0.step)⟩
          · have nb : (bt s i == 46) = false := beq_eq_false_iff_ne.mpr hdot
            have HND := Lib.hid (show ¬ (i < s.size ∧ bt s i = 46) from fun h => hdot h.2); clear hdot
            by_cases h15 : 15 < i
            · have d15 : decide (15 < (i : Int)) = true := decide_eq_true (by omega)
              have H15 := Lib.hid h15; clear h15
              go_wp2_with (first | (go_at_call 32; refine (ci _).mono ?_; rintro e w' ⟨rfl, ⟨nd, rfl⟩⟩))
              go_ret3
              exact ⟨by rw [outC_fail_int HND.out H15.out]; rfl, by repeat (first | exact Drawn0.refl _ | apply Drawn0.step)⟩
            · have d15 : decide (15 < (i : Int)) = false := decide_eq_false (by omega)
              have H15 := Lib.hid h15; clear h15
              have hsl : (i ≤ s.size) = True := eq_true HJS.out
              have hsi : ((i : Int) ≤ s.size) = True := eq_true (by have := HJS.out; omega)
              go_wp2_with (first | (go_at_call 32; refine (ci _).mono ?_; rintro e w' ⟨rfl, ⟨nd, rfl⟩⟩))
              go_quiet (fail)
              go_wp2
              go_ret3
              exact ⟨by rw [outC_ok_int HND.out H15.out]; rfl, by repeat (first | exact Drawn0.refl _ | apply Drawn0.step)⟩
        · have HND := Lib.hid (show ¬ (i < s.size ∧ bt s i = 46) from fun h => his h.1)
          have qi : ((i : Int) < s.size) = False := eq_false (by omega)
          have q : (i < s.size) = False := eq_false his
          clear his
          by_cases h15 : 15 < i
          · have d15 : decide (15 < (i : Int)) = true := decide_eq_true (by omega)
            have H15 := Lib.hid h15; clear h15
            go_wp2
            go_ret3
            exact ⟨by rw [outC_fail_int HND.out H15.out]; rfl, by repeat (first | exact Drawn0.refl _ | apply Drawn0.step)⟩
          · have d15 : decide (15 < (i : Int)) = false := decide_eq_false (by omega)
            have H15 := Lib.hid h15; clear h15
            have hsl : (i ≤ s.size) = True := eq_true HJS.out
            have hsi : ((i : Int) ≤ s.size) = True := eq_true (by have := HJS.out; omega)
            go_wp2
            go_quiet (fail)
            go_wp2
            go_ret3
            exact ⟨by rw [outC_ok_int HND.out H15.out]; rfl, by repeat (first | exact Drawn0.refl _ | apply Drawn0.step)⟩
    · obtain ⟨rfl, rfl, hji, hik, hjs, hdot, h12⟩ := hB
      have HG := Lib.hid hg; clear hg
      have hr := HR.out hjs
      have hib : i ≤ 2147483647 := by have := hr.size; omega
      have hjb : j ≤ 2147483647 := by omega
      by_cases hlt : i < k
      · have hd := hr.dig i (by omega) hlt
        have his : i < s.size := by have := hr.size; omega
        have hx : ∀ h : i < s.size, ((s[i]'h).toNat : Int) = bt s i := bt_at s i
        have qi : ((i : Int) < s.size) = True := eq_true (by omega)
        have q : (i < s.size) = True := eq_true his
        have ci := fun w => isDigit_yes (bt s i) w hd.1 hd.2
        have HIS := Lib.hid his
        clear hd his hr
        have HL := Lib.hid hlt; clear hlt
        have HF := Lib.hid (And.intro hji (And.intro hjs (And.intro hdot h12)))
        clear hji hjs hdot h12 hik
        go_wp2_with (first | (go_at_call 32; refine (ci _).mono ?_; rintro e w' ⟨rfl, ⟨nd, rfl⟩⟩))
        go_roundg (s.size - (i + 1))
        case measure => have := HIS.out; have := HG.out; omega
        case rel => exact ⟨⟨i + 1, rfl, by go_num, Or.inr ⟨rfl, rfl, by have := HF.out.1; omega, HL.out, HF.out.2.1, HF.out.2.2.1, HF.out.2.2.2⟩⟩, by repeat (first | exact Drawn0.refl _ | apply Drawn0.step)⟩
      · have hi : i = k := by omega
        subst hi
        clear hlt hik
        obtain ⟨q, rfl⟩ : ∃ q, i = q + 1 := ⟨i - 1, by omega⟩
        have hqs : q < s.size := by have := hr.size; omega
        have hxq : ∀ h : q < s.size, ((s[q]'h).toNat : Int) = bt s q := bt_at s q
        have qiq : ((q : Int) < s.size) = True := eq_true (by omega)
        have qq : (q < s.size) = True := eq_true hqs
        have hst := hr.stop
        have hsl : (q + 1 ≤ s.size) = True := eq_true hr.size
        have hsi : ((q : Int) + 1 ≤ s.size) = True := eq_true (by have := hr.size; omega)
        have HF := Lib.hid (And.intro hji (And.intro hjs (And.intro hdot h12)))
        have HRR := Lib.hid hr
        clear hqs hr
        by_cases his : q + 1 < s.size
        · have hx : ∀ h : q + 1 < s.size, ((s[q + 1]'h).toNat : Int) = bt s ((q + 1 : Nat) : Int) := bt_at s ((q + 1 : Nat) : Int)
          have qi : ((q : Int) + 1 < s.size) = True := eq_true (by omega)
          have qn : (q + 1 < s.size) = True := eq_true his
          have ci := fun w => isDigit_no (bt s ((q + 1 : Nat) : Int)) w (hst his)
          clear hst
          have HIS := Lib.hid his; clear his
          clear hji hjs hdot h12
          go_wp2_with (first | (go_at_call 32; refine (ci _).mono ?_; rintro e w' ⟨rfl, ⟨nd, rfl⟩⟩))
          · go_ret3
            have hb : 16 < (q : Int) + 1 := by assumption
            exact ⟨by rw [outC_fail_dot HF.out.2.1 HF.out.2.2.1 (Or.inr (Or.inl (by omega)))]; rfl, by repeat (first | exact Drawn0.refl _ | apply Drawn0.step)⟩
          · go_ret3
            have hb : (bt s (q : Int) == 46) = true := by assumption
            have he : q + 1 = j + 1 := by
              by_cases e : q = j
              · omega
              · have := HRR.out.dig q (by have := HF.out.1; omega) (by omega)
                have := beq_iff_eq.mp hb
                omega
            exact ⟨by rw [outC_fail_dot HF.out.2.1 HF.out.2.2.1 (Or.inr (Or.inr (Or.inl he)))]; rfl, by repeat (first | exact Drawn0.refl _ | apply Drawn0.step)⟩
          · go_ret3
            have hb : 3 < (q : Int) + 1 - j - 1 := by assumption
            exact ⟨by rw [outC_fail_dot HF.out.2.1 HF.out.2.2.1 (Or.inr (Or.inr (Or.inr (by omega))))]; rfl, by repeat (first | exact Drawn0.refl _ | apply Drawn0.step)⟩
          · have b1 : (q : Int) + 1 ≤ 16 := by assumption
            have b2 : (bt s (q : Int) == 46) = false := by assumption
            have b3 : (q : Int) + 1 - j - 1 ≤ 3 := by assumption
            have HB := Lib.hid (And.intro b1 (And.intro b2 b3))
            go_quiet (fail)
            go_wp2
            go_ret3
            have hn : ¬ (12 < j - 0 ∨ 16 < q + 1 - 0 ∨ q + 1 = j + 1 ∨ 3 < q + 1 - j - 1) := by
              obtain ⟨b1, b2, b3⟩ := HB.out
              have h12 := HF.out.2.2.2
              have hne : q ≠ j := fun e => by rw [e, HF.out.2.2.1] at b2; simp at b2
              omega
            exact ⟨by rw [outC_ok_dot HF.out.2.1 HF.out.2.2.1 hn]; rfl, by repeat (first | exact Drawn0.refl _ | apply Drawn0.step)⟩
        · have qi : ((q : Int) + 1 < s.size) = False := eq_false (by omega)
          have qn : (q + 1 < s.size) = False := eq_false his
          clear hst his
          clear hji hjs hdot h12
          go_wp2
          · go_ret3
            have hb : 16 < (q : Int) + 1 := by assumption
            exact ⟨by rw [outC_fail_dot HF.out.2.1 HF.out.2.2.1 (Or.inr (Or.inl (by omega)))]; rfl, by repeat (first | exact Drawn0.refl _ | apply Drawn0.step)⟩
          · go_ret3
            have hb : (bt s (q : Int) == 46) = true := by assumption
            have he : q + 1 = j + 1 := by
              by_cases e : q = j
              · omega
              · have := HRR.out.dig q (by have := HF.out.1; omega) (by omega)
                have := beq_iff_eq.mp hb
                omega
            exact ⟨by rw [outC_fail_dot HF.out.2.1 HF.out.2.2.1 (Or.inr (Or.inr (Or.inl he)))]; rfl, by repeat (first | exact Drawn0.refl _ | apply Drawn0.step)⟩
          · go_ret3
            have hb : 3 < (q : Int) + 1 - j - 1 := by assumption
            exact ⟨by rw [outC_fail_dot HF.out.2.1 HF.out.2.2.1 (Or.inr (Or.inr (Or.inr (by omega))))]; rfl, by repeat (first | exact Drawn0.refl _ | apply Drawn0.step)⟩
          · have b1 : (q : Int) + 1 ≤ 16 := by assumption
            have b2 : (bt s (q : Int) == 46) = false := by assumption
            have b3 : (q : Int) + 1 - j - 1 ≤ 3 := by assumption
            have HB := Lib.hid (And.intro b1 (And.intro b2 b3))
            go_quiet (fail)
            go_wp2
            go_ret3
            have hn : ¬ (12 < j - 0 ∨ 16 < q + 1 - 0 ∨ q + 1 = j + 1 ∨ 3 < q + 1 - j - 1) := by
              obtain ⟨b1, b2, b3⟩ := HB.out
              have h12 := HF.out.2.2.2
              have hne : q ≠ j := fun e => by rw [e, HF.out.2.2.1] at b2; simp at b2
              omega
            exact ⟨by rw [outC_ok_dot HF.out.2.1 HF.out.2.2.1 hn]; rfl, by repeat (first | exact Drawn0.refl _ | apply Drawn0.step)⟩
set_option maxHeartbeats 4000000 in
set_option maxRecDepth 100000 in
theorem consume_minus (s : ByteArray) (j k : Nat) (w : World) (hs : s.size ≤ 2147483647) (hm : bt s 0 = 45) (h0 : 1 < s.size) (r1 : Run s 1 j) (hj : 1 < j) (r2 : j < s.size → Run s (j + 1) k) :
    Calls Tryd.prog 23 #[.string s] w fun e w' => e = .returned (.tuple #[.string (outC s 1 j k).1, .string (outC s 1 j k).2.1, .bool (outC s 1 j k).2.2]) ∧ Drawn0 w w' := by
  obtain ⟨_, hjs, hd, hst⟩ := r1
  have g0 : 48 ≤ bt s 1 ∧ bt s 1 ≤ 57 := hd 1 (by omega) (by omega)
  have hx0 : ∀ h : 0 < s.size, ((s[0]'h).toNat : Int) = 45 := fun h => (bt_at s 0 h).trans hm
  have hx1 : ∀ h : 1 < s.size, ((s[1]'h).toNat : Int) = bt s 1 := bt_at s 1
  have hi0 : ((0 : Int) < s.size) = True := eq_true (by omega)
  have hi1 : ((1 : Int) < s.size) = True := eq_true (by omega)
  have hd0 : (0 < s.size) = True := eq_true (by omega)
  have hd1 : (1 < s.size) = True := eq_true (by omega)
  have hne : ¬ s = ByteArray.empty := fun e => by rw [e] at h0; simp at h0
  have n0 : decide ((s.size : Int) ≤ 1) = false := decide_eq_false (by omega)
  have c0 := fun w => isDigit_yes (bt s 1) w g0.1 g0.2
  clear g0 hm
  have HS0 := Lib.hid h0; clear h0
  have HD := Lib.hid hd; clear hd
  have HST := Lib.hid hst; clear hst
  have HR := Lib.hid r2; clear r2
  have HJ := Lib.hid hj; clear hj
  have HJS := Lib.hid hjs; clear hjs
  go_enter Tryd.func23, Tryd.ntmps23
  go_wp2_with (first | (go_at_call 32; refine (c0 _).mono ?_; rintro e w' ⟨rfl, ⟨nd, rfl⟩⟩))
  go_loopg [5, 7, 8] (s.size - 1) (fun gk v5 v7 v8 w' => RC s 1 j k gk v5 v7 v8 ∧ Drawn0 w w')
  case atStart => exact ⟨⟨1, rfl, rfl, Or.inl ⟨rfl, rfl, Nat.le_refl _, by have := HJ.out; omega⟩⟩, by repeat (first | exact Drawn0.refl _ | apply Drawn0.step)⟩
  case round =>
    clear hx0 hx1 hi0 hi1 hd0 hd1 n0 hne c0
    obtain ⟨⟨i, hg, rfl, hA | hB⟩, ⟨nw, rfl⟩⟩ := hrel
    · obtain ⟨rfl, rfl, hoi, hij⟩ := hA
      have HG := Lib.hid hg; clear hg
      have hib : i ≤ 2147483647 := by have := HJS.out; omega
      by_cases hlt : i < j
      · have hd := HD.out i (by omega) hlt
        have his : i < s.size := by have := HJS.out; omega
        have hx : ∀ h : i < s.size, ((s[i]'h).toNat : Int) = bt s i := bt_at s i
        have qi : ((i : Int) < s.size) = True := eq_true (by omega)
        have q : (i < s.size) = True := eq_true his
        have ci := fun w => isDigit_yes (bt s i) w hd.1 hd.2
        clear hd his
        have HL := Lib.hid hlt; clear hlt
        go_wp2_with (first | (go_at_call 32; refine (ci _).mono ?_; rintro e w' ⟨rfl, ⟨nd, rfl⟩⟩))
        go_roundg (s.size - (i + 1))
        case measure => have := HL.out; have := HJS.out; have := HG.out; omega
        case rel => exact ⟨⟨i + 1, rfl, by go_num, Or.inl ⟨rfl, rfl, by omega, HL.out⟩⟩, by repeat (first | exact Drawn0.refl _ | apply Drawn0.step)⟩
      · have hi : i = j := by omega
        subst hi
        clear hlt hij hoi
        by_cases his : i < s.size
        · have hst := HST.out his
          have hx : ∀ h : i < s.size, ((s[i]'h).toNat : Int) = bt s i := bt_at s i
          have qi : ((i : Int) < s.size) = True := eq_true (by omega)
          have q : (i < s.size) = True := eq_true his
          have ci := fun w => isDigit_no (bt s i) w hst
          clear hst
          have HIS := Lib.hid his; clear his
          by_cases hdot : bt s i = 46
          · have nb : (bt s i == 46) = true := beq_iff_eq.mpr hdot
            have HDOT := Lib.hid hdot; clear hdot
            by_cases h12 : 12 < i - 1
            · have d12 : decide (12 < (i : Int) - 1) = true := decide_eq_true (by omega)
              have H12 := Lib.hid h12; clear h12
              go_wp2_with (first | (go_at_call 32; refine (ci _).mono ?_; rintro e w' ⟨rfl, ⟨nd, rfl⟩⟩))
              go_ret3
              exact ⟨by rw [outC_fail_dot HIS.out HDOT.out (Or.inl H12.out)]; rfl, by repeat (first | exact Drawn0.refl _ | apply Drawn0.step)⟩
            · have d12 : decide (12 < (i : Int) - 1) = false := decide_eq_false (by omega)
              have H12 := Lib.hid h12; clear h12
              go_wp2_with (first | (go_at_call 32; refine (ci _).mono ?_; rintro e w' ⟨rfl, ⟨nd, rfl⟩⟩))
              go_roundg (s.size - (i + 1))
              case measure => have := HIS.out; have := HG.out; omega
              case rel => exact ⟨⟨i + 1, rfl, by go_num, Or.inr ⟨rfl, rfl, by omega, (HR.out HIS.out).le, HIS.out, HDOT.out, by have := H12.out; omega⟩⟩, by repeat (first | exact Drawn0.refl _ | apply Drawn0.step)⟩
          · have nb : (bt s i == 46) = false := beq_eq_false_iff_ne.mpr hdot
            have HND := Lib.hid (show ¬ (i < s.size ∧ bt s i = 46) from fun h => hdot h.2); clear hdot
            by_cases h15 : 15 < i - 1
            · have d15 : decide (15 < (i : Int) - 1) = true := decide_eq_true (by omega)
              have H15 := Lib.hid h15; clear h15
              go_wp2_with (first | (go_at_call 32; refine (ci _).mono ?_; rintro e w' ⟨rfl, ⟨nd, rfl⟩⟩))
              go_ret3
              exact ⟨by rw [outC_fail_int HND.out H15.out]; rfl, by repeat (first | exact Drawn0.refl _ | apply Drawn0.step)⟩
            · have d15 : decide (15 < (i : Int) - 1) = false := decide_eq_false (by omega)
              have H15 := Lib.hid h15; clear h15
              have hsl : (i ≤ s.size) = True := eq_true HJS.out
              have hsi : ((i : Int) ≤ s.size) = True := eq_true (by have := HJS.out; omega)
              go_wp2_with (first | (go_at_call 32; refine (ci _).mono ?_; rintro e w' ⟨rfl, ⟨nd, rfl⟩⟩))
              go_quiet (fail)
              go_wp2
              go_ret3
              exact ⟨by rw [outC_ok_int HND.out H15.out]; rfl, by repeat (first | exact Drawn0.refl _ | apply Drawn0.step)⟩
        · have HND := Lib.hid (show ¬ (i < s.size ∧ bt s i = 46) from fun h => his h.1)
          have qi : ((i : Int) < s.size) = False := eq_false (by omega)
          have q : (i < s.size) = False := eq_false his
          clear his
          by_cases h15 : 15 < i - 1
          · have d15 : decide (15 < (i : Int) - 1) = true := decide_eq_true (by omega)
            have H15 := Lib.hid h15; clear h15
            go_wp2
            go_ret3
            exact ⟨by rw [outC_fail_int HND.out H15.out]; rfl, by repeat (first | exact Drawn0.refl _ | apply Drawn0.step)⟩
          · have d15 : decide (15 < (i : Int) - 1) = false := decide_eq_false (by omega)
            have H15 := Lib.hid h15; clear h15
            have hsl : (i ≤ s.size) = True := eq_true HJS.out
            have hsi : ((i : Int) ≤ s.size) = True := eq_true (by have := HJS.out; omega)
            go_wp2
            go_quiet (fail)
            go_wp2
            go_ret3
            exact ⟨by rw [outC_ok_int HND.out H15.out]; rfl, by repeat (first | exact Drawn0.refl _ | apply Drawn0.step)⟩
    · obtain ⟨rfl, rfl, hji, hik, hjs, hdot, h12⟩ := hB
      have HG := Lib.hid hg; clear hg
      have hr := HR.out hjs
      have hib : i ≤ 2147483647 := by have := hr.size; omega
      have hjb : j ≤ 2147483647 := by omega
      by_cases hlt : i < k
      · have hd := hr.dig i (by omega) hlt
        have his : i < s.size := by have := hr.size; omega
        have hx : ∀ h : i < s.size, ((s[i]'h).toNat : Int) = bt s i := bt_at s i
        have qi : ((i : Int) < s.size) = True := eq_true (by omega)
        have q : (i < s.size) = True := eq_true his
        have ci := fun w => isDigit_yes (bt s i) w hd.1 hd.2
        have HIS := Lib.hid his
        clear hd his hr
        have HL := Lib.hid hlt; clear hlt
        have HF := Lib.hid (And.intro hji (And.intro hjs (And.intro hdot h12)))
        clear hji hjs hdot h12 hik
        go_wp2_with (first | (go_at_call 32; refine (ci _).mono ?_; rintro e w' ⟨rfl, ⟨nd, rfl⟩⟩))
        go_roundg (s.size - (i + 1))
        case measure => have := HIS.out; have := HG.out; omega
        case rel => exact ⟨⟨i + 1, rfl, by go_num, Or.inr ⟨rfl, rfl, by have := HF.out.1; omega, HL.out, HF.out.2.1, HF.out.2.2.1, HF.out.2.2.2⟩⟩, by repeat (first | exact Drawn0.refl _ | apply Drawn0.step)⟩
      · have hi : i = k := by omega
        subst hi
        clear hlt hik
        obtain ⟨q, rfl⟩ : ∃ q, i = q + 1 := ⟨i - 1, by omega⟩
        have hqs : q < s.size := by have := hr.size; omega
        have hxq : ∀ h : q < s.size, ((s[q]'h).toNat : Int) = bt s q := bt_at s q
        have qiq : ((q : Int) < s.size) = True := eq_true (by omega)
        have qq : (q < s.size) = True := eq_true hqs
        have hst := hr.stop
        have hsl : (q + 1 ≤ s.size) = True := eq_true hr.size
        have hsi : ((q : Int) + 1 ≤ s.size) = True := eq_true (by have := hr.size; omega)
        have HF := Lib.hid (And.intro hji (And.intro hjs (And.intro hdot h12)))
        have HRR := Lib.hid hr
        clear hqs hr
        by_cases his : q + 1 < s.size
        · have hx : ∀ h : q + 1 < s.size, ((s[q + 1]'h).toNat : Int) = bt s ((q + 1 : Nat) : Int) := bt_at s ((q + 1 : Nat) : Int)
          have qi : ((q : Int) + 1 < s.size) = True := eq_true (by omega)
          have qn : (q + 1 < s.size) = True := eq_true his
          have ci := fun w => isDigit_no (bt s ((q + 1 : Nat) : Int)) w (hst his)
          clear hst
          have HIS := Lib.hid his; clear his
          clear hji hjs hdot h12
          go_wp2_with (first | (go_at_call 32; refine (ci _).mono ?_; rintro e w' ⟨rfl, ⟨nd, rfl⟩⟩))
          · go_ret3
            have hb : 16 < (q : Int) := by assumption
            exact ⟨by rw [outC_fail_dot HF.out.2.1 HF.out.2.2.1 (Or.inr (Or.inl (by omega)))]; rfl, by repeat (first | exact Drawn0.refl _ | apply Drawn0.step)⟩
          · go_ret3
            have hb : (bt s (q : Int) == 46) = true := by assumption
            have he : q + 1 = j + 1 := by
              by_cases e : q = j
              · omega
              · have := HRR.out.dig q (by have := HF.out.1; omega) (by omega)
                have := beq_iff_eq.mp hb
                omega
            exact ⟨by rw [outC_fail_dot HF.out.2.1 HF.out.2.2.1 (Or.inr (Or.inr (Or.inl he)))]; rfl, by repeat (first | exact Drawn0.refl _ | apply Drawn0.step)⟩
          · go_ret3
            have hb : 3 < (q : Int) + 1 - j - 1 := by assumption
            exact ⟨by rw [outC_fail_dot HF.out.2.1 HF.out.2.2.1 (Or.inr (Or.inr (Or.inr (by omega))))]; rfl, by repeat (first | exact Drawn0.refl _ | apply Drawn0.step)⟩
          · have b1 : (q : Int) ≤ 16 := by assumption
            have b2 : (bt s (q : Int) == 46) = false := by assumption
            have b3 : (q : Int) + 1 - j - 1 ≤ 3 := by assumption
            have HB := Lib.hid (And.intro b1 (And.intro b2 b3))
            go_quiet (fail)
            go_wp2
            go_ret3
            have hn : ¬ (12 < j - 1 ∨ 16 < q + 1 - 1 ∨ q + 1 = j + 1 ∨ 3 < q + 1 - j - 1) := by
              obtain ⟨b1, b2, b3⟩ := HB.out
              have h12 := HF.out.2.2.2
              have hne : q ≠ j := fun e => by rw [e, HF.out.2.2.1] at b2; simp at b2
              omega
            exact ⟨by rw [outC_ok_dot HF.out.2.1 HF.out.2.2.1 hn]; rfl, by repeat (first | exact Drawn0.refl _ | apply Drawn0.step)⟩
        · have qi : ((q : Int) + 1 < s.size) = False := eq_false (by omega)
          have qn : (q + 1 < s.size) = False := eq_false his
          clear hst his
          clear hji hjs hdot h12
          go_wp2
          · go_ret3
            have hb : 16 < (q : Int) := by assumption
            exact ⟨by rw [outC_fail_dot HF.out.2.1 HF.out.2.2.1 (Or.inr (Or.inl (by omega)))]; rfl, by repeat (first | exact Drawn0.refl _ | apply Drawn0.step)⟩
          · go_ret3
            have hb : (bt s (q : Int) == 46) = true := by assumption
            have he : q + 1 = j + 1 := by
              by_cases e : q = j
              · omega
              · have := HRR.out.dig q (by have := HF.out.1; omega) (by omega)
                have := beq_iff_eq.mp hb
                omega
            exact ⟨by rw [outC_fail_dot HF.out.2.1 HF.out.2.2.1 (Or.inr (Or.inr (Or.inl he)))]; rfl, by repeat (first | exact Drawn0.refl _ | apply Drawn0.step)⟩
          · go_ret3
            have hb : 3 < (q : Int) + 1 - j - 1 := by assumption
            exact ⟨by rw [outC_fail_dot HF.out.2.1 HF.out.2.2.1 (Or.inr (Or.inr (Or.inr (by omega))))]; rfl, by repeat (first | exact Drawn0.refl _ | apply Drawn0.step)⟩
          · have b1 : (q : Int) ≤ 16 := by assumption
            have b2 : (bt s (q : Int) == 46) = false := by assumption
            have b3 : (q : Int) + 1 - j - 1 ≤ 3 := by assumption
            have HB := Lib.hid (And.intro b1 (And.intro b2 b3))
            go_quiet (fail)
            go_wp2
            go_ret3
            have hn : ¬ (12 < j - 1 ∨ 16 < q + 1 - 1 ∨ q + 1 = j + 1 ∨ 3 < q + 1 - j - 1) := by
              obtain ⟨b1, b2, b3⟩ := HB.out
              have h12 := HF.out.2.2.2
              have hne : q ≠ j := fun e => by rw [e, HF.out.2.2.1] at b2; simp at b2
              omega
            exact ⟨by rw [outC_ok_dot HF.out.2.1 HF.out.2.2.1 hn]; rfl, by repeat (first | exact Drawn0.refl _ | apply Drawn0.step)⟩
set_option maxRecDepth 100000 in
/-- No digit where a number must begin: the text is none. -/
theorem consume_none (s : ByteArray) (w : World) (hs : s.size ≤ 2147483647)
    (h : s.size = 0 ∨ (0 < s.size ∧ bt s 0 ≠ 45 ∧ (bt s 0 < 48 ∨ 57 < bt s 0)) ∨ (s.size = 1 ∧ bt s 0 = 45) ∨ (1 < s.size ∧ bt s 0 = 45 ∧ (bt s 1 < 48 ∨ 57 < bt s 1))) :
    Calls Tryd.prog 23 #[.string s] w fun e w' => e = .returned (.tuple #[.string ⟨#[]⟩, .string s, .bool false]) ∧ Drawn0 w w' := by
  rcases h with h | ⟨h, h1, h2⟩ | ⟨h, h1⟩ | ⟨h, h1, h2⟩
  · obtain rfl := ByteArray.size_eq_zero_iff.mp h
    clear h
    have hz : ByteArray.empty.size = 0 := rfl
    go_enter Tryd.func23, Tryd.ntmps23
    go_wp2
    go_ret3
    exact ⟨rfl, Drawn0.refl _⟩
  · have hx0 : ∀ h : 0 < s.size, ((s[0]'h).toNat : Int) = bt s 0 := bt_at s 0
    have hi0 : ((0 : Int) < s.size) = True := eq_true (by omega)
    have hd0 : (0 < s.size) = True := eq_true (by omega)
    have n0 : (bt s 0 == 45) = false := beq_eq_false_iff_ne.mpr h1
    have hne : ¬ s = ByteArray.empty := fun e => by rw [e] at h; simp at h
    have c0 := fun w => isDigit_no (bt s 0) w h2
    clear h h1 h2
    go_enter Tryd.func23, Tryd.ntmps23
    go_wp2_with (first | (go_at_call 32; refine (c0 _).mono ?_; rintro e w' ⟨rfl, ⟨nd, rfl⟩⟩))
    go_ret3
    exact ⟨rfl, by repeat (first | exact Drawn0.refl _ | apply Drawn0.step)⟩
  · have hx0 : ∀ h : 0 < s.size, ((s[0]'h).toNat : Int) = 45 := fun h => (bt_at s 0 h).trans h1
    have hi0 : ((0 : Int) < s.size) = True := eq_true (by omega)
    have hd0 : (0 < s.size) = True := eq_true (by omega)
    have n0 : decide ((s.size : Int) ≤ 1) = true := decide_eq_true (by omega)
    have H := Lib.hid h; clear h h1
    go_enter Tryd.func23, Tryd.ntmps23
    go_wp2
    go_ret3
    exact ⟨rfl, by repeat (first | exact Drawn0.refl _ | apply Drawn0.step)⟩
  · have hx0 : ∀ h : 0 < s.size, ((s[0]'h).toNat : Int) = 45 := fun h => (bt_at s 0 h).trans h1
    have hx1 : ∀ h : 1 < s.size, ((s[1]'h).toNat : Int) = bt s 1 := bt_at s 1
    have hi0 : ((0 : Int) < s.size) = True := eq_true (by omega)
    have hi1 : ((1 : Int) < s.size) = True := eq_true (by omega)
    have hd0 : (0 < s.size) = True := eq_true (by omega)
    have hd1 : (1 < s.size) = True := eq_true h
    have n0 : decide ((s.size : Int) ≤ 1) = false := decide_eq_false (by omega)
    have c0 := fun w => isDigit_no (bt s 1) w h2
    clear h h1 h2
    go_enter Tryd.func23, Tryd.ntmps23
    go_wp2_with (first | (go_at_call 32; refine (c0 _).mono ?_; rintro e w' ⟨rfl, ⟨nd, rfl⟩⟩))
    go_ret3
    exact ⟨rfl, by repeat (first | exact Drawn0.refl _ | apply Drawn0.step)⟩

theorem ext_one {s : ByteArray} {j : Nat} (h : j < s.size) (hb : bt s j = 46) : (s.extract j (j + 1)).toList = [46] := by
  rw [ByteArray.toList_eq]
  have hg : s[j] = 46 := by
    have := bt_at s j h
    rw [hb] at this
    have h46 : ((s[j]'h).toNat : Int) = 46 := this
    apply UInt8.toNat.inj
    show (s[j]'h).toNat = 46
    omega
  have e : (s.extract j (j + 1)).data.toList = (s.data.toList.drop j).take 1 := by
    simp [ByteArray.data_extract, List.extract_eq_take_drop]
  have hl : j < s.data.toList.length := by simpa using h
  rw [e, List.drop_eq_getElem_cons hl]
  simp only [List.take_succ_cons, List.take_zero]
  congr 1

/-- Some place at or above 0. -/
def Found (w : World) (e : Ending) (w' : World) : Prop := ∃ n : Nat, e = .returned (.int .i64 (n : Nat)) ∧ Drawn0 w w'

def RZ (s : ByteArray) (j gk : Nat) (v5 : Value) : Prop := ∃ i : Nat, gk = s.size - i ∧ v5 = .int .i64 (i : Nat) ∧ i ≤ j

set_option maxRecDepth 100000 in
theorem index_dot (s : ByteArray) (j : Nat) (w : World) (hs : s.size ≤ 2147483647) (hj : j < s.size) (hb : bt s j = 46) :
    Calls Tryd.prog 33 #[.string s, .string ⟨#[46]⟩] w (Found w) := by
  have hone := ext_one hj hb
  have HJ := Lib.hid hj; clear hj hb
  have HO := Lib.hid hone; clear hone
  have z1 : (⟨#[46]⟩ : ByteArray).size = 1 := rfl
  have z2 : (⟨#[46]⟩ : ByteArray).toList = [46] := ByteArray.toList_mk [46]
  go_enter Tryd.func33, Tryd.ntmps33
  go_wp2
  go_loopg [5] s.size (fun gk v5 w' => RZ s j gk v5 ∧ Drawn0 w w')
  case atStart => exact ⟨⟨0, rfl, rfl, Nat.zero_le _⟩, by repeat (first | exact Drawn0.refl _ | apply Drawn0.step)⟩
  case round =>
    obtain ⟨⟨i, hg, rfl, hij⟩, ⟨nw, rfl⟩⟩ := hrel
    have HG := Lib.hid hg; clear hg
    have hib : i + 1 ≤ 2147483647 := by have := HJ.out; omega
    have h1 : ((i : Int) + 1 ≤ s.size) = True := eq_true (by have := HJ.out; omega)
    have hsl := fun wx => run_slice_string (P := Tryd.prog) (w := wx) 9 s .i64 .i64 (i : Int) ((i : Int) + 1) Tryd.underlying9 (by omega) (by omega) (by have := HJ.out; omega)
    have et : ((i : Int) + 1).toNat = i + 1 := by omega
    rw [et, Int.toNat_natCast] at hsl
    clear et
    by_cases he : (s.extract i (i + 1)).toList = [46]
    · have hb : ((s.extract i (i + 1)).toList == [46]) = true := beq_iff_eq.mpr he
      have HE := Lib.hid he; clear he
      go_wp2
      go_ret
      exact ⟨i, rfl, by repeat (first | exact Drawn0.refl _ | apply Drawn0.step)⟩
    · have hb : ((s.extract i (i + 1)).toList == [46]) = false := beq_eq_false_iff_ne.mpr he
      have hlt : i < j := by
        by_cases e : i = j
        · exact absurd (e ▸ HO.out) he
        · omega
      have HE := Lib.hid he; clear he
      go_wp2
      go_roundg (s.size - (i + 1))
      case measure => have := HJ.out; have := HG.out; omega
      case rel => exact ⟨⟨i + 1, rfl, by go_num, hlt⟩, by repeat (first | exact Drawn0.refl _ | apply Drawn0.step)⟩

set_option maxRecDepth 100000 in
theorem contains_dot (s : ByteArray) (j : Nat) (w : World) (hs : s.size ≤ 2147483647) (hj : j < s.size) (hb : bt s j = 46) :
    Calls Tryd.prog 24 #[.string s, .string ⟨#[46]⟩] w fun e w' => e = .returned (.bool true) ∧ Drawn0 w w' := by
  have c := index_dot s j w hs hj hb
  clear hs hj hb
  go_enter Tryd.func24, Tryd.ntmps24
  go_wp2_with (first | (go_at_call 33; refine c.mono ?_; rintro e w' ⟨n, rfl, ⟨nd, rfl⟩⟩))
  go_ret
  exact ⟨rfl, by repeat (first | exact Drawn0.refl _ | apply Drawn0.step)⟩

set_option maxRecDepth 100000 in
/-- ParseDecimal of a text that is no decimal. -/
theorem parse_no (s : ByteArray) (w : World) (r1 r2 : ByteArray) (b : Bool) (h : b = false ∨ r2.toList ≠ [])
    (c : Calls Tryd.prog 23 #[.string s] w fun e w' => e = .returned (.tuple #[.string r1, .string r2, .bool b]) ∧ Drawn0 w w') :
    Calls Tryd.prog 12 #[.string s] w fun e w' => e = .returned (.tuple #[.float .f64 0, .bool false]) ∧ Drawn0 w w' := by
  cases b
  · clear h
    go_enter Tryd.func12, Tryd.ntmps12
    go_wp2_with (first | (go_at_call 23; refine c.mono ?_; rintro e w' ⟨rfl, ⟨nd, rfl⟩⟩))
    go_ret2
    exact ⟨rfl, by repeat (first | exact Drawn0.refl _ | apply Drawn0.step)⟩
  · have hne : r2.toList ≠ [] := h.resolve_left (by decide)
    have h1 : (r2.toList == ([] : List UInt8)) = false := beq_eq_false_iff_ne.mpr hne
    have h2 : (r2.toList != ([] : List UInt8)) = true := bne_iff_ne.mpr hne
    have h3 : r2.toList.isEmpty = false := by cases e : r2.toList with | nil => exact absurd e hne | cons a l => rfl
    have h4 : (!r2.toList.isEmpty) = true := by rw [h3]; rfl
    clear h hne
    go_enter Tryd.func12, Tryd.ntmps12
    go_wp2_with (first | (go_at_call 23; refine c.mono ?_; rintro e w' ⟨rfl, ⟨nd, rfl⟩⟩))
    go_ret2
    exact ⟨rfl, by repeat (first | exact Drawn0.refl _ | apply Drawn0.step)⟩

set_option maxRecDepth 100000 in
/-- ParseDecimal of a decimal. -/
theorem parse_yes (s : ByteArray) (w : World) (r1 r2 : ByteArray) (r : Nat) (h : r2.toList = [])
    (c : Calls Tryd.prog 23 #[.string s] w fun e w' => e = .returned (.tuple #[.string r1, .string r2, .bool true]) ∧ Drawn0 w w')
    (c2 : ∀ w, Calls Tryd.prog 24 #[.string s, .string ⟨#[46]⟩] w fun e w' => e = .returned (.bool true) ∧ Drawn0 w w')
    (c3 : ∀ n, Calls Tryd.prog 25 #[.string s, .int .i64 64] (w.drewN n) fun e w' => e = .returned (.tuple #[.float .f64 r, .nilIface]) ∧ Drawn0 (w.drewN n) w') :
    Calls Tryd.prog 12 #[.string s] w fun e w' => e = .returned (.tuple #[.float .f64 r, .bool true]) ∧ Drawn0 w w' := by
  have h1 : (r2.toList == ([] : List UInt8)) = true := beq_iff_eq.mpr h
  have h2 : (r2.toList != ([] : List UInt8)) = false := bne_eq_false_iff_eq.mpr h
  have h3 : r2.toList.isEmpty = true := by rw [h]; rfl
  have h4 : (!r2.toList.isEmpty) = false := by rw [h3]; rfl
  go_enter Tryd.func12, Tryd.ntmps12
  go_wp2_with (first | (go_at_call 23; refine c.mono ?_; rintro e w' ⟨rfl, ⟨nd, rfl⟩⟩) | (go_at_call 24; refine (c2 _).mono ?_; rintro e w' ⟨rfl, ⟨nd2, rfl⟩⟩) | (go_at_call 25; refine (c3 _).mono ?_; rintro e w' ⟨rfl, ⟨nd3, rfl⟩⟩))
  go_ret2
  exact ⟨rfl, by repeat (first | exact Drawn0.refl _ | apply Drawn0.step)⟩

set_option maxRecDepth 100000 in
/-- The thin package's Decimal: the float's bits. -/
theorem decimal_any (s : ByteArray) (w : World) (r : Nat) (b : Bool)
    (c : Calls Tryd.prog 12 #[.string s] w fun e w' => e = .returned (.tuple #[.float .f64 r, .bool b]) ∧ Drawn0 w w') :
    Calls Tryd.prog 6 #[.string s] w fun e w' => e = .returned (.tuple #[.int .u64 (r : Nat), .bool b]) ∧ Drawn0 w w' := by
  have r13 := run13
  go_enter Tryd.func6, Tryd.ntmps6
  go_wp2_with (first | (go_at_call 12; refine c.mono ?_; rintro e w' ⟨rfl, ⟨nd, rfl⟩⟩))
  go_ret2
  exact ⟨rfl, by repeat (first | exact Drawn0.refl _ | apply Drawn0.step)⟩

end Go.Proofs.YtjalihaidhkofaaDoor.Hand
