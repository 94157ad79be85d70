/- The walks of ParseFloat's road at a decimal: special finds nothing, atof64exact divides by a power of ten, atof64, parseFloatPrefix and both ParseFloat hand its result on. -/
import Derived.Test.YtjalihaidhkofaaDoorBase
import Derived.Test.YtjalihaidhkofaaDoorFlt
import Derived.Laws.Externs
import Derived.Laws.FloatArith
namespace Go.Proofs.YtjalihaidhkofaaDoor.Hand
open Go.RowKit
open Go.Proofs.YtjalihaidhkofaaDoor
attribute [local go_sem] min_pair

set_option maxRecDepth 100000 in
theorem prefix_none (s : ByteArray) (w : World) (hs : s.size ≤ 2147483647) (h0 : 0 < s.size) (h1 : 48 ≤ bt s 0) (h2 : bt s 0 ≤ 57) :
    Calls Tryd.prog 61 #[.string s, .string ⟨#[105, 110, 102, 105, 110, 105, 116, 121]⟩] w fun e w' => e = .returned (.int .i64 0) ∧ Drawn0 w w' := by
  have hx : ∀ h : 0 < s.size, ((s[0]'h).toNat : Int) = bt s 0 := bt_at s 0
  have hi0 : ((0 : Int) < s.size) = True := eq_true (by omega)
  have hn : (bt s 0 != 105) = true := by simp; omega
  have hl : decide (65 ≤ bt s 0) = false := by simp; omega
  have b0 : ((⟨#[105, 110, 102, 105, 110, 105, 116, 121]⟩ : ByteArray)[0].toNat : Int) = 105 := rfl
  by_cases hc : s.size < 8
  all_goals
    have hd0 := eq_true h0
    clear h0 h1 h2
    go_enter Tryd.func61, Tryd.ntmps61
    go_wp2
    refine wp_loop_rounds 1 ?_
    rw [rounds_succ]
    go_wp2
    go_ret
    exact ⟨rfl, Drawn0.refl _⟩
theorem bt_tail (s : ByteArray) (h : 1 < s.size) : bt (s.extract 1 s.size) 0 = bt s 1 := by
  have hz : (s.extract 1 s.size).size = s.size - 1 := by simp
  rw [← bt_at s 1 h, ← bt_at (s.extract 1 s.size) 0 (by rw [hz]; simp; omega)]
  show (((s.extract 1 s.size)[0]'(by rw [hz]; omega)).toNat : Int) = ((s[1]'h).toNat : Int)
  rw [ByteArray.getElem_extract]

set_option maxRecDepth 100000 in
theorem special_digit (s : ByteArray) (w : World) (hs : s.size ≤ 2147483647) (h0 : 0 < s.size) (h1 : 48 ≤ bt s 0) (h2 : bt s 0 ≤ 57) :
    Calls Tryd.prog 47 #[.string s] w fun e w' => e = .returned (.tuple #[.float .f64 0, .int .i64 0, .bool false]) ∧ Drawn0 w w' := by
  have hx : ∀ h : 0 < s.size, ((s[0]'h).toNat : Int) = bt s 0 := bt_at s 0
  have hi0 : ((0 : Int) < s.size) = True := eq_true (by omega)
  have hz : ((s.size : Int) == 0) = false := beq_eq_false_iff_ne.mpr (by omega)
  have n1 : (bt s 0 == 43) = false := by simp; omega
  have n2 : (bt s 0 == 45) = false := by simp; omega
  have n3 : (bt s 0 == 105) = false := by simp; omega
  have n4 : (bt s 0 == 73) = false := by simp; omega
  have n5 : (bt s 0 == 110) = false := by simp; omega
  have n6 : (bt s 0 == 78) = false := by simp; omega
  have hd0 := eq_true h0
  clear h0 h1 h2
  go_enter Tryd.func47, Tryd.ntmps47
  go_wp2
  go_ret3
  exact ⟨rfl, Drawn0.refl _⟩

set_option maxRecDepth 100000 in
theorem special_minus (s : ByteArray) (w : World) (hs : s.size ≤ 2147483647) (h0 : 1 < s.size) (hm : bt s 0 = 45) (h1 : 48 ≤ bt s 1) (h2 : bt s 1 ≤ 57) :
    Calls Tryd.prog 47 #[.string s] w fun e w' => e = .returned (.tuple #[.float .f64 0, .int .i64 0, .bool false]) ∧ Drawn0 w w' := by
  have hx : ∀ h : 0 < s.size, ((s[0]'h).toNat : Int) = 45 := fun h => (bt_at s 0 h).trans hm
  have hi0 : ((0 : Int) < s.size) = True := eq_true (by omega)
  have hz : ((s.size : Int) == 0) = false := beq_eq_false_iff_ne.mpr (by omega)
  have hd0 : (0 < s.size) = True := eq_true (by omega)
  have ht := bt_tail s h0
  have c := fun w => prefix_none (s.extract 1 s.size) w (by simp; omega) (by simp; omega) (by rw [ht]; exact h1) (by rw [ht]; exact h2)
  clear h1 h2 ht hm
  go_enter Tryd.func47, Tryd.ntmps47
  go_wp2_with (first | (go_at_call 61; refine (c _).mono ?_; rintro e w' ⟨rfl, ⟨nd, rfl⟩⟩))
  go_ret3
  exact ⟨rfl, by repeat (first | exact Drawn0.refl _ | apply Drawn0.step)⟩

/-- A float with its sign turned or not. -/
def signedF (neg : Bool) (x : Nat) : Nat := if neg then Op.negFloat .f64 x else x

set_option maxRecDepth 100000 in
/-- atof64exact, where the exponent is -1, -2 or -3. -/
theorem exact_any (m : Int) (k : Nat) (neg : Bool) (r b o c : Nat) (w : World) (h0 : 0 < m) (h1 : m < 4503599627370496) (hk0 : 1 ≤ k) (hk3 : k ≤ 3)
    (hi : w.cell? ⟨5, 0, none⟩ = some (.int .u64 52)) (hs : w.cell? ⟨8, 0, none⟩ = some (.slice (some ⟨b, o, none⟩) 23 c)) (hc : w.cell? ⟨b, o + k, none⟩ = some (.float .f64 (Flt.tenBits k)))
    (hq : floatBits .quo .f64 (signedF neg (floatOfInt .f64 m)) (Flt.tenBits k) = some r) :
    Calls Tryd.prog 58 #[.int .u64 m, .int .i64 (-(k : Int)), .bool neg] w fun e w' => e = .returned (.tuple #[.float .f64 r, .bool true]) ∧ Drawn0 w w' := by
  have hrun := fun w => run_float_arith (P := Tryd.prog) w .quo 30 .f64 _ _ _ hq
  have hm : (m / 4503599627370496 != 0) = false := by simp; omega
  have hneg : ∀ b, Op.unary .neg (.float .f64 b) = pure (.float .f64 (Op.negFloat .f64 b)) := fun _ => rfl
  clear hq
  unfold signedF at hrun
  rcases (show k = 1 ∨ k = 2 ∨ k = 3 by omega) with rfl | rfl | rfl <;> cases neg <;> simp only [Flt.tenBits, Bool.false_eq_true, if_false, if_true] at hrun hc
  all_goals
    go_enter Tryd.func58, Tryd.ntmps58
    go_wp2
    go_ret2
    exact ⟨rfl, Drawn0.refl _⟩

theorem run57 (n : Int) (w : World) : (callFunc 57 #[.int .u64 n]).run Tryd.prog w = .ok (.value (.float .f64 n.toNat)) w := by
  rw [run_callFunc_extern Tryd.func57 (by kernel_rfl) (by kernel_rfl) (by kernel_rfl) (e := Extern.MathFloatBits.float64frombits) (by kernel_rfl)]; rfl
theorem run7 (n : Int) (w : World) : (callFunc 7 #[.int .u64 n]).run Tryd.prog w = .ok (.value (.float .f64 n.toNat)) w := by
  rw [run_callFunc_extern Tryd.func7 (by kernel_rfl) (by kernel_rfl) (by kernel_rfl) (e := Extern.MathFloatBits.float64frombits) (by kernel_rfl)]; rfl
theorem run13 (n : Nat) (w : World) : (callFunc 13 #[.float .f64 n]).run Tryd.prog w = .ok (.value (.int .u64 n)) w := by
  rw [run_callFunc_extern Tryd.func13 (by kernel_rfl) (by kernel_rfl) (by kernel_rfl) (e := Extern.MathFloatBits.float64bits) (by kernel_rfl)]; rfl

set_option maxRecDepth 100000 in
theorem bool2_true (w : World) : Calls Tryd.prog 56 #[.bool true] w fun e w' => e = .returned (.int .u64 1) ∧ Drawn0 w w' := by
  go_enter Tryd.func56, Tryd.ntmps56
  go_wp2
  go_ret
  exact ⟨rfl, Drawn0.refl _⟩
set_option maxRecDepth 100000 in
theorem bool2_false (w : World) : Calls Tryd.prog 56 #[.bool false] w fun e w' => e = .returned (.int .u64 0) ∧ Drawn0 w w' := by
  go_enter Tryd.func56, Tryd.ntmps56
  go_wp2
  go_ret
  exact ⟨rfl, Drawn0.refl _⟩

set_option maxHeartbeats 1000000 in
set_option maxRecDepth 100000 in
theorem atof_zero (s : ByteArray) (w : World) (neg : Bool) (hopt : w.cell? ⟨4, 0, none⟩ = some (.bool true))
    (c1 : ∀ w, Calls Tryd.prog 47 #[.string s] w fun e w' => e = .returned (.tuple #[.float .f64 0, .int .i64 0, .bool false]) ∧ Drawn0 w w')
    (c2 : ∀ w, Calls Tryd.prog 48 #[.string s] w fun e w' => e = .returned (.tuple #[.int .u64 0, .int .i64 0, .bool neg, .bool false, .bool false, .int .i64 s.size, .bool true]) ∧ Drawn0 w w') :
    Calls Tryd.prog 43 #[.string s] w fun e w' => e = .returned (.tuple #[.float .f64 (if neg then 9223372036854775808 else 0), .int .i64 s.size, .nilIface]) ∧ Drawn0 w w' := by
  have r57 := run57
  cases neg
  all_goals
    go_enter Tryd.func43, Tryd.ntmps43
    go_wp2_with (first | (go_at_call 47; refine (c1 _).mono ?_; rintro e w' ⟨rfl, ⟨nd, rfl⟩⟩) | (go_at_call 48; refine (c2 _).mono ?_; rintro e w' ⟨rfl, ⟨nd2, rfl⟩⟩) | (go_at_call 56; (with_reducible refine (bool2_true _).mono ?_); rintro e w' ⟨rfl, ⟨nd3, rfl⟩⟩) | (go_at_call 56; (with_reducible refine (bool2_false _).mono ?_); rintro e w' ⟨rfl, ⟨nd3, rfl⟩⟩))
    go_ret3
    exact ⟨rfl, by repeat (first | exact Drawn0.refl _ | apply Drawn0.step)⟩

set_option maxHeartbeats 1000000 in
set_option maxRecDepth 100000 in
theorem atof_some (s : ByteArray) (w : World) (neg : Bool) (m : Int) (k r : Nat) (hopt : w.cell? ⟨4, 0, none⟩ = some (.bool true)) (h0 : 0 < m) (hk0 : 1 ≤ k) (hk3 : k ≤ 3)
    (c1 : ∀ w, Calls Tryd.prog 47 #[.string s] w fun e w' => e = .returned (.tuple #[.float .f64 0, .int .i64 0, .bool false]) ∧ Drawn0 w w')
    (c2 : ∀ w, Calls Tryd.prog 48 #[.string s] w fun e w' => e = .returned (.tuple #[.int .u64 m, .int .i64 (-(k : Int)), .bool neg, .bool false, .bool false, .int .i64 s.size, .bool true]) ∧ Drawn0 w w')
    (c3 : ∀ n, Calls Tryd.prog 58 #[.int .u64 m, .int .i64 (-(k : Int)), .bool neg] (w.drewN n) fun e w' => e = .returned (.tuple #[.float .f64 r, .bool true]) ∧ Drawn0 (w.drewN n) w') :
    Calls Tryd.prog 43 #[.string s] w fun e w' => e = .returned (.tuple #[.float .f64 r, .int .i64 s.size, .nilIface]) ∧ Drawn0 w w' := by
  have hm : (m == 0) = false := beq_eq_false_iff_ne.mpr (by omega)
  have d1 : decide (310 < -(k : Int)) = false := decide_eq_false (by omega)
  have d2 : decide (-(k : Int) < -345) = false := decide_eq_false (by omega)
  cases neg
  all_goals
    go_enter Tryd.func43, Tryd.ntmps43
    go_wp2_with (first | (go_at_call 47; refine (c1 _).mono ?_; rintro e w' ⟨rfl, ⟨nd, rfl⟩⟩) | (go_at_call 48; refine (c2 _).mono ?_; rintro e w' ⟨rfl, ⟨nd2, rfl⟩⟩) | (go_at_call 56; (with_reducible refine (bool2_true _).mono ?_); rintro e w' ⟨rfl, ⟨nd3, rfl⟩⟩) | (go_at_call 56; (with_reducible refine (bool2_false _).mono ?_); rintro e w' ⟨rfl, ⟨nd3, rfl⟩⟩) | (go_at_call 58; (with_reducible refine (c3 _).mono ?_); rintro e w' ⟨rfl, ⟨nd4, rfl⟩⟩))
    go_ret3
    exact ⟨rfl, by repeat (first | exact Drawn0.refl _ | apply Drawn0.step)⟩

set_option maxRecDepth 100000 in
theorem prefix64 (s : ByteArray) (w : World) (r : Nat) (c : Calls Tryd.prog 43 #[.string s] w fun e w' => e = .returned (.tuple #[.float .f64 r, .int .i64 s.size, .nilIface]) ∧ Drawn0 w w') :
    Calls Tryd.prog 37 #[.string s, .int .i64 64] w fun e w' => e = .returned (.tuple #[.float .f64 r, .int .i64 s.size, .nilIface]) ∧ Drawn0 w w' := by
  go_enter Tryd.func37, Tryd.ntmps37
  go_wp2_with (first | (go_at_call 43; refine c.mono ?_; rintro e w' ⟨rfl, ⟨nd, rfl⟩⟩))
  go_ret3
  exact ⟨rfl, by repeat (first | exact Drawn0.refl _ | apply Drawn0.step)⟩

set_option maxRecDepth 100000 in
theorem inner64 (s : ByteArray) (w : World) (r : Nat) (c : Calls Tryd.prog 43 #[.string s] w fun e w' => e = .returned (.tuple #[.float .f64 r, .int .i64 s.size, .nilIface]) ∧ Drawn0 w w') :
    Calls Tryd.prog 34 #[.string s, .int .i64 64] w fun e w' => e = .returned (.tuple #[.float .f64 r, .nilIface]) ∧ Drawn0 w w' := by
  have c' := prefix64 s w r c
  clear c
  go_enter Tryd.func34, Tryd.ntmps34
  go_wp2_with (first | (go_at_call 37; refine c'.mono ?_; rintro e w' ⟨rfl, ⟨nd, rfl⟩⟩))
  go_ret2
  exact ⟨rfl, by repeat (first | exact Drawn0.refl _ | apply Drawn0.step)⟩

set_option maxRecDepth 100000 in
theorem outer64 (s : ByteArray) (w : World) (r : Nat) (c : Calls Tryd.prog 43 #[.string s] w fun e w' => e = .returned (.tuple #[.float .f64 r, .int .i64 s.size, .nilIface]) ∧ Drawn0 w w') :
    Calls Tryd.prog 25 #[.string s, .int .i64 64] w fun e w' => e = .returned (.tuple #[.float .f64 r, .nilIface]) ∧ Drawn0 w w' := by
  have c' := inner64 s w r c
  clear c
  go_enter Tryd.func25, Tryd.ntmps25
  go_wp2_with (first | (go_at_call 34; refine c'.mono ?_; rintro e w' ⟨rfl, ⟨nd, rfl⟩⟩))
  go_ret2
  exact ⟨rfl, by repeat (first | exact Drawn0.refl _ | apply Drawn0.step)⟩
end Go.Proofs.YtjalihaidhkofaaDoor.Hand
