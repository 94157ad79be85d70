/- impl.Decimal: of a decimal, the bits of a float that is equal to its thousandths over a thousand; of any other text that begins as a number does, none; and what Number says of it. -/
import Derived.Test.YtjalihaidhkofaaDoorHand
import Derived.Test.YtjalihaidhkofaaDoorCons
import Derived.Test.YtjalihaidhkofaaDoorThou
import Derived.Test.YtjalihaidhkofaaDoorNum
namespace Go.Proofs.YtjalihaidhkofaaDoor.Hand
open Go.RowKit
open Go.Proofs.YtjalihaidhkofaaDoor

/-- The package-level values that the float's reading looks at. -/
structure Tabs (w : World) : Prop where
  opt : w.cell? ⟨4, 0, none⟩ = some (.bool true)
  info : w.cell? ⟨5, 0, none⟩ = some (.int .u64 52)
  tens : ∃ b o c, w.cell? ⟨8, 0, none⟩ = some (.slice (some ⟨b, o, none⟩) 23 c) ∧ ∀ k, 1 ≤ k → k ≤ 3 → w.cell? ⟨b, o + k, none⟩ = some (.float .f64 (Flt.tenBits k))

/-- Thousandths's answer. -/
def thou (s : ByteArray) (o j : Nat) : Int :=
  if o = 1 then -((dv s o (s.size - o) * 10 ^ (3 - (s.size - j - 1)) : Nat) : Int) else ((dv s o (s.size - o) * 10 ^ (3 - (s.size - j - 1)) : Nat) : Int)

theorem special_dec {s : ByteArray} {o j : Nat} (hd : Dec s o j) (w : World) :
    Calls Tryd.prog 47 #[.string s] w fun e w' => e = .returned (.tuple #[.float .f64 0, .int .i64 0, .bool false]) ∧ Drawn0 w w' := by
  have := hd.oj
  have := hd.js
  have := hd.front
  have := hd.back
  rcases (show o = 0 ∨ o = 1 by have := hd.o1; omega) with rfl | rfl
  · have := hd.dig 0 (by omega) (by omega) (by omega)
    exact special_digit s w (by omega) (by omega) this.1 this.2
  · have := hd.dig 1 (by omega) (by omega) (by omega)
    exact special_minus s w (by omega) (by omega) (hd.minus rfl) this.1 this.2

theorem read_dec {s : ByteArray} {o j : Nat} (hd : Dec s o j) (w : World) :
    Calls Tryd.prog 48 #[.string s] w fun e w' => e = .returned (.tuple #[.int .u64 (dv s o (s.size - o)), .int .i64 (expo s (dv s o (s.size - o)) j), .bool (decide (o = 1)), .bool false, .bool false, .int .i64 s.size, .bool true]) ∧ Drawn0 w w' := by
  rcases (show o = 0 ∨ o = 1 by have := hd.o1; omega) with rfl | rfl
  · exact read_plus s j w hd
  · exact read_minus s j w hd

theorem floatBits_quo (x y : Nat) : floatBits .quo .f64 x y = Ieee.double.div x y := rfl

/-- The float that the package reads: it is equal to the thousandths over a thousand. -/
theorem float_dec {s : ByteArray} {o j : Nat} (hd : Dec s o j) : ∃ r q : Nat, floatBits .quo .f64 (floatOfInt .f64 (thou s o j)) 4652007308841189376 = some q ∧ Ieee.double.order r q = some .eq ∧
    ∀ w, Tabs w → Calls Tryd.prog 43 #[.string s] w fun e w' => e = .returned (.tuple #[.float .f64 r, .int .i64 s.size, .nilIface]) ∧ Drawn0 w w' := by
  have h1 := hd.oj
  have h2 := hd.js
  have h3 := hd.front
  have h4 := hd.back
  have h5 := hd.o1
  have htop := dv_top hd 3 (Nat.le_refl _)
  have hrd := fun w => read_dec hd w
  have hsp := fun w => special_dec hd w
  by_cases hz : dv s o (s.size - o) = 0
  · have hth : thou s o j = 0 := by unfold thou; rw [hz]; simp
    refine ⟨if decide (o = 1) then 9223372036854775808 else 0, 0, ?_, ?_, fun w T => ?_⟩
    · rw [hth, floatBits_quo]; exact Flt.zero_quo
    · by_cases ho : o = 1
      · rw [decide_eq_true ho, if_pos rfl]; exact Flt.zero_eq_neg
      · rw [decide_eq_false ho, if_neg Bool.false_ne_true]; exact Flt.zero_eq
    · refine atof_zero s w (decide (o = 1)) T.opt hsp fun w => ?_
      have := hrd w
      rw [hz] at this
      exact this
  · have hpos : 0 < dv s o (s.size - o) := by omega
    have hk1 : 1 ≤ s.size - j - 1 := by omega
    have hb53 : dv s o (s.size - o) * 10 ^ (3 - (s.size - j - 1)) < 2 ^ 53 := Nat.lt_of_lt_of_le htop (by decide)
    have hb52 : dv s o (s.size - o) < 4503599627370496 := by
      have : 1 ≤ 10 ^ (3 - (s.size - j - 1)) := Nat.pow_pos (by omega)
      have := Nat.le_mul_of_pos_right (dv s o (s.size - o)) this
      have e15 : (10 : Nat) ^ 15 = 1000000000000000 := by decide
      omega
    have hm53 : dv s o (s.size - o) < 2 ^ 53 := by omega
    obtain ⟨r, hr1, hr2, ho⟩ := Flt.decimal_eq (decide (o = 1)) (dv s o (s.size - o)) (s.size - j - 1) hpos hk1 h4 hb53
    have hT0 : 0 < dv s o (s.size - o) * 10 ^ (3 - (s.size - j - 1)) := Nat.mul_pos hpos (Nat.pow_pos (by omega))
    have hq : floatBits .quo .f64 (signedF (decide (o = 1)) (floatOfInt .f64 (dv s o (s.size - o) : Nat))) (Flt.tenBits (s.size - j - 1)) = some r := by
      rw [Flt.ofInt_pos, floatBits_quo, ← hr1]
      by_cases ho : o = 1
      · rw [decide_eq_true ho, signedF, if_pos rfl, Flt.neg_nearest _ hpos hm53]
      · rw [decide_eq_false ho, signedF, if_neg Bool.false_ne_true]
    refine ⟨r, r, ?_, ho, fun w T => ?_⟩
    · unfold thou
      rw [floatBits_quo, ← hr2]
      by_cases ho : o = 1
      · rw [if_pos ho, Flt.ofInt_neg _ hT0, decide_eq_true ho]
      · rw [if_neg ho, Flt.ofInt_pos, decide_eq_false ho]
    · obtain ⟨b, o', c, t1, t2⟩ := T.tens
      refine atof_some s w (decide (o = 1)) (dv s o (s.size - o) : Nat) (s.size - j - 1) r T.opt (by omega) hk1 h4 hsp (fun w => ?_) fun n => ?_
      · have := hrd w
        rw [expo, if_neg hz] at this
        exact this
      · exact exact_any _ _ _ r b o' c (w.drewN n) (by omega) (by omega) hk1 h4 T.info t1 (t2 _ hk1 h4) hq

theorem Tabs.drewN {w : World} (T : Tabs w) (n : Nat) : Tabs (w.drewN n) := ⟨T.opt, T.info, T.tens⟩

/-- The package's Decimal of a decimal. -/
theorem deci_yes {s : ByteArray} {o j : Nat} (hd : Dec s o j) : ∃ r q : Nat, floatBits .quo .f64 (floatOfInt .f64 (thou s o j)) 4652007308841189376 = some q ∧ Ieee.double.order r q = some .eq ∧
    ∀ w, Tabs w → Calls Tryd.prog 6 #[.string s] w fun e w' => e = .returned (.tuple #[.int .u64 (r : Nat), .bool true]) ∧ Drawn0 w w' := by
  obtain ⟨r, q, h1, h2, c⟩ := float_dec hd
  have g1 := hd.oj
  have g2 := hd.js
  have g3 := hd.front
  have g4 := hd.back
  have g5 := hd.o1
  refine ⟨r, q, h1, h2, fun w T => decimal_any s w r true ?_⟩
  have hrun1 : Run s o j := ⟨by omega, by omega, fun q a b => hd.dig q a (by omega) (by omega), fun _ => by rw [hd.dot]; omega⟩
  have hrun2 : Run s (j + 1) s.size := ⟨by omega, Nat.le_refl _, fun q a b => hd.dig q (by omega) b (by omega), fun h => absurd h (Nat.lt_irrefl _)⟩
  have hout : outC s o j s.size = (s.extract 0 s.size, s.extract s.size s.size, true) := outC_ok_dot (by omega) hd.dot (by omega)
  have hem : (s.extract s.size s.size).toList = [] := by
    rw [ByteArray.toList_eq]; simp
  have cc : Calls Tryd.prog 23 #[.string s] w fun e w' => e = .returned (.tuple #[.string (s.extract 0 s.size), .string (s.extract s.size s.size), .bool true]) ∧ Drawn0 w w' := by
    rcases (show o = 0 ∨ o = 1 by omega) with rfl | rfl
    · have := consume_plus s j s.size w (by omega) hrun1 (by omega) (fun _ => hrun2)
      rw [hout] at this; exact this
    · have := consume_minus s j s.size w (by omega) (hd.minus rfl) (by omega) hrun1 (by omega) (fun _ => hrun2)
      rw [hout] at this; exact this
  refine parse_yes s w _ _ r hem cc (fun w => contains_dot s j w (by omega) (by omega) hd.dot) fun n => ?_
  exact outer64 s (w.drewN n) r (c (w.drewN n) (T.drewN n))

/-- The package's Decimal of a text whose decimal does not end it. -/
theorem deci_no (s : ByteArray) (w : World) (r1 r2 : ByteArray) (b : Bool) (h : b = false ∨ r2.toList ≠ [])
    (c : Calls Tryd.prog 23 #[.string s] w fun e w' => e = .returned (.tuple #[.string r1, .string r2, .bool b]) ∧ Drawn0 w w') :
    Calls Tryd.prog 6 #[.string s] w fun e w' => e = .returned (.tuple #[.int .u64 0, .bool false]) ∧ Drawn0 w w' :=
  decimal_any s w 0 false (parse_no s w r1 r2 b h c)

theorem ext_ne {s : ByteArray} {k : Nat} (h : k < s.size) : (s.extract k s.size).toList ≠ [] := by
  rw [ByteArray.toList_eq]
  intro e
  have := congrArg List.length e
  simp at this
  omega

/-- What Number and the package say of a text that begins with a digit or, behind a minus, goes on with one: a decimal that ends the text, an integer that ends it, or nothing that ends it. -/
theorem split_num (s : ByteArray) (o j k : Nat) (hs : s.size ≤ 2147483647) (ho : o ≤ 1) (hm : o = 1 → bt s 0 = 45) (hoj : o < j) (r1 : Run s o j) (r2 : j < s.size → Run s (j + 1) k) (h0 : 0 < s.size)
    (cn : ∀ w, Calls Tryd.prog 23 #[.string s] w fun e w' => e = .returned (.tuple #[.string (outC s o j k).1, .string (outC s o j k).2.1, .bool (outC s o j k).2.2]) ∧ Drawn0 w w') :
    (Dec s o j ∧ (outN s o j k) = (s.extract 0 s.size, true, true)) ∨
    ((outN s o j k).2.1 = false ∧ (outN s o j k).2.2 = true ∧ (outN s o j k).1.size = s.size) ∨
    ((∀ w, Calls Tryd.prog 6 #[.string s] w fun e w' => e = .returned (.tuple #[.int .u64 0, .bool false]) ∧ Drawn0 w w') ∧ ((outN s o j k).2.2 = false ∨ (outN s o j k).1.size < s.size)) := by
  have hjs := r1.size
  by_cases hdot : j < s.size ∧ bt s j = 46
  · have rr := r2 hdot.1
    by_cases hbad : 12 < j - o ∨ 16 < k - o ∨ k = j + 1 ∨ 3 < k - j - 1
    · refine Or.inr (Or.inr ⟨fun w => ?_, Or.inl ?_⟩)
      · have := cn w
        rw [outC_fail_dot hdot.1 hdot.2 hbad] at this
        exact deci_no s w _ _ _ (Or.inl rfl) this
      · rw [outN_fail_dot ⟨hdot, hoj⟩ hbad]
    · by_cases hk : k = s.size
      · subst hk
        refine Or.inl ⟨⟨ho, hm, hoj, by omega, hdot.2, fun i a b e => ?_, by omega, by omega⟩, outN_ok_dot ⟨hdot, hoj⟩ hbad⟩
        by_cases g : i < j
        · exact r1.dig i a g
        · exact rr.dig i (by omega) b
      · have hks : k < s.size := by have := rr.size; omega
        refine Or.inr (Or.inr ⟨fun w => ?_, Or.inr ?_⟩)
        · have := cn w
          rw [outC_ok_dot hdot.1 hdot.2 hbad] at this
          exact deci_no s w _ _ _ (Or.inr (ext_ne hks)) this
        · rw [outN_ok_dot ⟨hdot, hoj⟩ hbad]
          show (s.extract 0 k).size < s.size
          rw [ByteArray.size_extract]; omega
  · have hd2 : ¬ ((j < s.size ∧ bt s j = 46) ∧ o < j) := fun h => hdot h.1
    by_cases hl : 15 < j - o
    · refine Or.inr (Or.inr ⟨fun w => ?_, Or.inl ?_⟩)
      · have := cn w
        rw [outC_fail_int hdot hl] at this
        exact deci_no s w _ _ _ (Or.inl rfl) this
      · rw [outN_fail_int hd2 (Or.inr hl)]
    · have hok : ¬ (j = o ∨ 15 < j - o) := by omega
      by_cases hj : j = s.size
      · refine Or.inr (Or.inl ?_)
        rw [outN_ok_int hd2 hok]
        refine ⟨rfl, rfl, ?_⟩
        show (s.extract 0 j).size = s.size
        rw [ByteArray.size_extract]; omega
      · have hjl : j < s.size := by omega
        refine Or.inr (Or.inr ⟨fun w => ?_, Or.inr ?_⟩)
        · have := cn w
          rw [outC_ok_int hdot hl] at this
          exact deci_no s w _ _ _ (Or.inr (ext_ne hjl)) this
        · rw [outN_ok_int hd2 hok]
          show (s.extract 0 j).size < s.size
          rw [ByteArray.size_extract]; omega
end Go.Proofs.YtjalihaidhkofaaDoor.Hand
