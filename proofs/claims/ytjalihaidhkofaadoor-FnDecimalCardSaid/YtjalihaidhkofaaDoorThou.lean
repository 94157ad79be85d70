/- Thousandths of a decimal: its digits' value times a power of ten, with its sign. -/
import Derived.Test.YtjalihaidhkofaaDoorRead
namespace Go.Proofs.YtjalihaidhkofaaDoor.Hand
open Go.RowKit
open Go.Proofs.YtjalihaidhkofaaDoor

/-- A decimal's digits have a value below ten to their number. -/
theorem dv_tight {s : ByteArray} {o j : Nat} (hd : Dec s o j) : ∀ n : Nat, o + n ≤ s.size → dv s o n < 10 ^ (if j < o + n then n - 1 else n)
  | 0, _ => by
    have := hd.oj
    rw [if_neg (by omega)]; simp [dv]
  | n + 1, h => by
    have ih := dv_tight hd n (by omega)
    have := hd.oj
    rw [dv]
    by_cases e : o + n = j
    · rw [if_pos (by rw [e]; exact hd.dot), if_pos (by omega), Nat.add_sub_cancel]
      rw [if_neg (by omega)] at ih
      exact ih
    · have h9 := hd.dig (o + n) (by omega) (by omega) e
      rw [if_neg (by omega)]
      by_cases g : j < o + n
      · rw [if_pos g] at ih
        rw [if_pos (by omega), Nat.add_sub_cancel]
        have e2 : 10 ^ n = 10 ^ (n - 1) * 10 := by rw [← Nat.pow_succ]; congr 1; omega
        rw [e2]; omega
      · rw [if_neg g] at ih
        rw [if_neg (by omega), Nat.pow_succ]; omega

theorem dv_top {s : ByteArray} {o j : Nat} (hd : Dec s o j) (m : Nat) (hm : m ≤ 3) : dv s o (s.size - o) * 10 ^ (m - (s.size - j - 1)) < 10 ^ 15 := by
  have := hd.oj
  have := hd.js
  have := hd.front
  have := hd.back
  have h := dv_tight hd (s.size - o) (by omega)
  rw [if_pos (by omega)] at h
  have hp : 0 < 10 ^ (m - (s.size - j - 1)) := Nat.pow_pos (by omega)
  have h2 := Nat.mul_lt_mul_of_pos_right h hp
  rw [← Nat.pow_add] at h2
  exact Nat.lt_of_lt_of_le h2 (Nat.pow_le_pow_right (by omega) (by omega))

theorem dv_mid {s : ByteArray} {o j n : Nat} (hd : Dec s o j) (hn : o + n ≤ s.size) : dv s o n < 10 ^ 15 := by
  have := hd.oj
  have := hd.js
  have := hd.front
  have := hd.back
  have h := dv_tight hd n hn
  refine Nat.lt_of_lt_of_le h (Nat.pow_le_pow_right (by omega) ?_)
  split <;> omega

/-- What holds at the head of Thousandths's loop; gk rounds are to come. -/
def RT (s : ByteArray) (o j gk : Nat) (v3 v4 v5 v9 : Value) : Prop :=
  ∃ (i : Nat) (bh : Int), gk = s.size - i ∧ i ≤ s.size ∧ v3 = .int .i64 (dv s o (i - o) : Nat) ∧ v4 = .int .i64 bh ∧ v5 = .bool (decide (o = 1 ∧ 0 < i)) ∧ v9 = .int .i64 (i : Nat) ∧
    ((i ≤ j ∧ bh = -1) ∨ (j < i ∧ bh = (i : Int) - j - 1))

/-- What holds at the head of its second loop. -/
def RT2 (s : ByteArray) (o j gk : Nat) (v3 v4 : Value) : Prop :=
  ∃ m : Nat, gk = 3 - m ∧ s.size - j - 1 ≤ m ∧ m ≤ 3 ∧ v3 = .int .i64 (dv s o (s.size - o) * 10 ^ (m - (s.size - j - 1)) : Nat) ∧ v4 = .int .i64 (m : Nat)

set_option maxHeartbeats 4000000 in
set_option maxRecDepth 100000 in
theorem thousandths (s : ByteArray) (o j : Nat) (w : World) (hd : Dec s o j) (r : Int) (hr : r = (if o = 1 then -((dv s o (s.size - o) * 10 ^ (3 - (s.size - j - 1)) : Nat) : Int) else ((dv s o (s.size - o) * 10 ^ (3 - (s.size - j - 1)) : Nat) : Int))) :
    Calls Tryd.prog 8 #[.string s] w fun e w' => e = .returned (.int .i64 r) ∧ Drawn0 w w' := by
  have HQ := Lib.hid hr; clear hr
  have hsz : s.size ≤ 17 := by have := hd.o1; have := hd.front; have := hd.back; omega
  have hoj := hd.oj
  have hjs := hd.js
  have ho1 := hd.o1
  have hbk := hd.back
  have H := Lib.hid hd; clear hd
  have HJ := Lib.hid hjs; clear hjs
  have HO := Lib.hid hoj; clear hoj
  have H1 := Lib.hid ho1; clear ho1
  have HB := Lib.hid hbk; clear hbk
  go_enter Tryd.func8, Tryd.ntmps8
  go_wp2
  go_loopg [3, 4, 5, 9] s.size (fun gk v3 v4 v5 v9 w' => RT s o j gk v3 v4 v5 v9 ∧ Drawn0 w w')
  case atStart => exact ⟨⟨0, -1, by omega, by omega, by simp [dv], rfl, by simp, rfl, Or.inl ⟨by omega, rfl⟩⟩, by repeat (first | exact Drawn0.refl _ | apply Drawn0.step)⟩
  case round =>
    obtain ⟨⟨i, bh, hg, his, rfl, rfl, rfl, rfl, hbh⟩, ⟨nw, rfl⟩⟩ := hrel
    have hbd : dv s o (i - o) < 10 ^ 15 := dv_mid H.out (by have := H1.out; have := HJ.out; have := HO.out; omega)
    obtain ⟨man, hman⟩ : ∃ man, dv s o (i - o) = man := ⟨_, rfl⟩
    rw [hman] at hbd ⊢
    have HM := Lib.hid hman; clear hman
    have HG := Lib.hid hg; clear hg
    obtain ⟨mi, hmi⟩ : ∃ mi, decide (o = 1 ∧ 0 < i) = mi := ⟨_, rfl⟩
    rw [hmi]
    have HMI := Lib.hid hmi; clear hmi
    by_cases hlt : i < s.size
    · have hx : ∀ h : i < s.size, ((s[i]'h).toNat : Int) = bt s i := bt_at s i
      have qi : ((i : Int) < s.size) = True := eq_true (by omega)
      have q := eq_true hlt
      have HBH := Lib.hid hbh
      by_cases hio : i < o
      · have hi0 : i = 0 := by have := H1.out; omega
        have hc : bt s i = 45 := by have := H1.out; rw [hi0]; exact H.out.minus (by omega)
        rw [hc] at hx
        have hb1 : bh = -1 := by have := HO.out; rcases hbh with ⟨h, h1⟩ | ⟨h, h1⟩ <;> omega
        subst hb1
        have HIO := Lib.hid hio
        have HI0 := Lib.hid hi0
        clear hio hi0 hbh hlt hc
        go_wp2
        go_roundg (s.size - (i + 1))
        case measure => have := q.mpr trivial; have := HG.out; omega
        case rel =>
          have hlt := q.mpr trivial
          have := HIO.out
          have := HI0.out
          have := H1.out
          have := HO.out
          refine ⟨⟨i + 1, -1, rfl, by omega, ?_, rfl, ?_, by go_num, Or.inl ⟨by omega, rfl⟩⟩, by repeat (first | exact Drawn0.refl _ | apply Drawn0.step)⟩
          · rw [← HM.out, show i + 1 - o = 0 by omega, show i - o = 0 by omega]
          · rw [decide_eq_true (show o = 1 ∧ 0 < i + 1 by omega)]
      · by_cases hij : i = j
        · have hc : bt s i = 46 := by rw [hij]; exact H.out.dot
          rw [hc] at hx
          have HC := Lib.hid hc
          have HIO := Lib.hid hio
          have HI := Lib.hid hij
          clear hio hbh hlt hc hij
          go_wp2
          go_roundg (s.size - (i + 1))
          case measure => have := q.mpr trivial; have := HG.out; omega
          case rel =>
            have hlt := q.mpr trivial
            have := HIO.out
            have := HI.out
            have := H1.out
            have := HO.out
            refine ⟨⟨i + 1, 0, rfl, by omega, ?_, rfl, ?_, by go_num, Or.inr ⟨by omega, by omega⟩⟩, by repeat (first | exact Drawn0.refl _ | apply Drawn0.step)⟩
            · rw [dv_dot (by omega) HC.out, HM.out]
            · rw [← HMI.out]; congr 2; simp only [eq_iff_iff]; omega
        · have hc : 48 ≤ bt s i ∧ bt s i ≤ 57 := H.out.dig i (by omega) hlt hij
          obtain ⟨c, hcc⟩ : ∃ c, bt s i = c := ⟨_, rfl⟩
          rw [hcc] at hc hx
          have HC := Lib.hid hcc; clear hcc
          have n1 : (c == 45) = false := beq_eq_false_iff_ne.mpr (by omega)
          have n2 : (c == 46) = false := beq_eq_false_iff_ne.mpr (by omega)
          have HIO := Lib.hid hio
          have HI := Lib.hid hij
          clear hio hij hlt
          rcases hbh with ⟨hl, rfl⟩ | ⟨hl, hb⟩
          · have HL := Lib.hid hl
            clear hl
            go_wp2
            go_roundg (s.size - (i + 1))
            case measure => have := q.mpr trivial; have := HG.out; omega
            case rel =>
              have hlt := q.mpr trivial
              have := HIO.out
              have := HI.out
              have := H1.out
              have := HO.out
              have := HL.out
              refine ⟨⟨i + 1, -1, rfl, by omega, ?_, rfl, ?_, by go_num, Or.inl ⟨by omega, rfl⟩⟩, by repeat (first | exact Drawn0.refl _ | apply Drawn0.step)⟩
              · rw [dv_dig (by omega) (by rw [HC.out]; omega), HM.out, HC.out]; first | rfl | go_num
              · rw [← HMI.out]; congr 2; simp only [eq_iff_iff]; omega
          · obtain ⟨n, rfl⟩ : ∃ n : Nat, bh = n := ⟨bh.toNat, by omega⟩
            have n3 : decide (0 ≤ (n : Int)) = true := decide_eq_true (by omega)
            have hnb : n ≤ 17 := by omega
            have HL := Lib.hid hl
            have HBB := Lib.hid hb
            clear hl hb
            go_wp2
            go_roundg (s.size - (i + 1))
            case measure => have := q.mpr trivial; have := HG.out; omega
            case rel =>
              have hlt := q.mpr trivial
              have := HIO.out
              have := HI.out
              have := H1.out
              have := HO.out
              have := HL.out
              have hbb := HBB.out
              refine ⟨⟨i + 1, ((n + 1 : Nat) : Int), rfl, by omega, ?_, by go_num, ?_, by go_num, Or.inr ⟨by omega, by omega⟩⟩, by repeat (first | exact Drawn0.refl _ | apply Drawn0.step)⟩
              · rw [dv_dig (by omega) (by rw [HC.out]; omega), HM.out, HC.out]; first | rfl | go_num
              · rw [← HMI.out]; congr 2; simp only [eq_iff_iff]; omega
    · have hi : i = s.size := by omega
      have hni : ((i : Int) < s.size) = False := eq_false (by omega)
      have hnn : (i < s.size) = False := eq_false hlt
      have hb : bh = ((s.size - j - 1 : Nat) : Int) := by have := HJ.out; rcases hbh with ⟨h, h1⟩ | ⟨h, h1⟩ <;> omega
      subst hb
      have HBH := Lib.hid hbh; clear hbh
      have HI := Lib.hid hi; clear hi
      clear hlt
      go_wp2
      go_loopg [3, 4] (3 - (s.size - j - 1)) (fun gk v3 v4 w' => RT2 s o j gk v3 v4 ∧ Drawn0 w w')
      case atStart => exact ⟨⟨s.size - j - 1, rfl, by omega, HB.out, by rw [Nat.sub_self, Nat.pow_zero, Nat.mul_one, ← HM.out, HI.out], rfl⟩, by repeat (first | exact Drawn0.refl _ | apply Drawn0.step)⟩
      case round =>
        obtain ⟨⟨m, hg2, hm1, hm2, rfl, rfl⟩, ⟨nw2, rfl⟩⟩ := hrel
        have hb2 := dv_top H.out m hm2
        obtain ⟨val, hval⟩ : ∃ val, dv s o (s.size - o) * 10 ^ (m - (s.size - j - 1)) = val := ⟨_, rfl⟩
        rw [hval] at hb2 ⊢
        have HV := Lib.hid hval; clear hval
        have HG2 := Lib.hid hg2; clear hg2
        by_cases hm3 : m < 3
        · have t1 : decide ((m : Int) < 3) = true := decide_eq_true (by omega)
          have t2 : ((m : Int) < 3) = True := eq_true (by omega)
          have HM3 := Lib.hid hm3; clear hm3
          have HM1 := Lib.hid hm1; clear hm1
          go_wp2
          go_roundg (3 - (m + 1))
          case measure => have := HM3.out; have := HG2.out; omega
          case rel =>
            have := HM3.out
            have := HM1.out
            refine ⟨⟨m + 1, rfl, by omega, by omega, ?_, by go_num⟩, by repeat (first | exact Drawn0.refl _ | apply Drawn0.step)⟩
            rw [show m + 1 - (s.size - j - 1) = (m - (s.size - j - 1)) + 1 by omega, Nat.pow_succ, ← Nat.mul_assoc, HV.out]
            first | rfl | go_num
        · have t1 : decide ((m : Int) < 3) = false := decide_eq_false (by omega)
          have t2 : ((m : Int) < 3) = False := eq_false (by omega)
          have e3 : m = 3 := by omega
          have HM3 := Lib.hid e3; clear e3 hm3
          have hres : r = if mi then -(val : Int) else (val : Int) := by
            have h3 := HM3.out
            have hv := HV.out
            rw [h3] at hv
            rw [HQ.out, hv]
            have hh := HMI.out
            have := HI.out
            have := HJ.out
            have h1 := H1.out
            by_cases e : o = 1
            · rw [if_pos e, ← hh, decide_eq_true (show o = 1 ∧ 0 < i by omega)]; rfl
            · rw [if_neg e, ← hh, decide_eq_false (by omega)]; rfl
          have HR := Lib.hid hres
          clear hres
          have hnn : -(val : Int) = -(val : Int) := rfl
          cases mi
          all_goals
            go_wp2
            go_ret
            refine ⟨?_, by repeat (first | exact Drawn0.refl _ | apply Drawn0.step)⟩
            first
              | (have h : r = (val : Int) := HR.out
                 rw [h]; done)
              | (have h : r = (val : Int) := HR.out
                 rw [h]; rfl)
              | (have h : r = -(val : Int) := HR.out
                 rw [h]
                 rfl)
end Go.Proofs.YtjalihaidhkofaaDoor.Hand
