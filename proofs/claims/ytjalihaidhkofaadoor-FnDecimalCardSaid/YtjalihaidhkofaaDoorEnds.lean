/- Only of the empty text; works answers true. -/
import Derived.Test.YtjalihaidhkofaaDoorOnly
namespace Go.Proofs.YtjalihaidhkofaaDoor.Hand
open Go.RowKit
open Go.Proofs.YtjalihaidhkofaaDoor

set_option maxHeartbeats 400000 in
set_option maxRecDepth 100000 in
theorem item_empty (w : World) : Calls Tryd.prog 9 #[.string ByteArray.empty] w fun e w' => e = .returned (.tuple #[.agg #[.int .i64 0, .string ⟨#[]⟩, .string ⟨#[]⟩, .bool false], .bool false]) ∧ Below w.heap.size w w' := by
  have hz : ByteArray.empty.size = 0 := rfl
  go_enter Tryd.func9, Tryd.ntmps9
  go_wp2
  refine bodyPost_ret (v := .tuple #[.agg #[.int .i64 0, .string ⟨#[]⟩, .string ⟨#[]⟩, .bool false], .bool false]) (by simp [results, Tryd.results9, go_sem]) rfl ⟨rfl, ?_⟩
  exact (Below.refl _ _).alloc (Nat.le_refl _) _

set_option maxHeartbeats 1000000 in
set_option maxRecDepth 100000 in
theorem only_empty (K : Int) (hK : K = 1 ∨ K = 2) (w : World) : Calls Tryd.prog 4 #[.string ByteArray.empty, .int .i64 K] w (OnlyP (fun _ _ told => told = 2 ∨ told = 0) w) := by
  have hz : ByteArray.empty.size = 0 := rfl
  have c := fun w => item_empty w
  have hkK : ((0 : Int) != K) = true := bne_iff_ne.mpr (by omega)
  have hkK2 : ((0 : Int) == K) = false := beq_eq_false_iff_ne.mpr (by omega)
  have hkK3 : (K == (0 : Int)) = false := beq_eq_false_iff_ne.mpr (by omega)
  go_enter Tryd.func4, Tryd.ntmps4
  go_wp2_with (first | (go_at_call 9; refine (c _).mono ?_; rintro e W ⟨rfl, hbe⟩; obtain ⟨q0, q1, q2, q3, qf, hbx, hlt⟩ := item_box2 (k := 0) rfl hbe; have hne : (w.heap.size = W.heap.size) = False := eq_false (by omega); have hne2 : (W.heap.size = w.heap.size) = False := eq_false (by omega); have HLT := Lib.hid hlt; clear hlt; have HBX := Lib.hid hbx; clear hbx hbe))
  refine bodyPost_ret (v := .tuple #[.agg #[.int .i64 0, .string ⟨#[]⟩, .string ⟨#[]⟩, .bool false], .int .i64 0]) ?r rfl ⟨0, _, _, _, 0, Or.inr rfl, rfl, ?b⟩
  case r => simp [results, Tryd.results4, go_sem, q0, q1, q2, q3]
  case b => exact below_four (by repeat (first | exact HBX.out.alloc (Nat.le_of_lt HLT.out) _ | apply Below.drewN')) _ _ _ _

set_option maxRecDepth 100000 in
theorem parse_bool (s : ByteArray) (hs : s = ⟨#[63, 49]⟩) (w : World) : Calls Tryd.prog 31 #[.string s] w fun e w' => e = .returned (.tuple #[.string (s.extract 0 2), .string ⟨#[]⟩, .bool true]) ∧ Drawn0 w w' := by
  have x1 : s.extract 0 2 = s := by rw [hs]; rfl
  have x2 : s.extract 2 2 = ⟨#[]⟩ := by rw [hs]; rfl
  have x3 : s.toList = [63, 49] := by rw [hs, ByteArray.toList_eq]
  have x4 : s.size = 2 := by rw [hs]; rfl
  have x5 : (([63, 49] : List UInt8) == [63, 48]) = false := by decide
  have x6 : (⟨#[63, 48]⟩ : ByteArray).toList = [63, 48] := by rw [ByteArray.toList_eq]
  have x7 : (⟨#[63, 49]⟩ : ByteArray).toList = [63, 49] := by rw [ByteArray.toList_eq]
  have y1 : ((s.extract 0 2).toList == [63, 48]) = false := by rw [x1, x3]; decide
  have y2 : ((s.extract 0 2).toList == [63, 49]) = true := by rw [x1, x3]; decide
  have z1 : ((2 : Int) ≤ s.size) = True := eq_true (by omega)
  have z2 : (2 ≤ s.size) = True := eq_true (by omega)
  have z3 : decide ((2 : Int) ≤ s.size) = true := decide_eq_true (by omega)
  have z4 : s.extract 2 s.size = ⟨#[]⟩ := by rw [x4]; exact x2
  clear hs x3 x5 x6 x7 x4 x2 x1
  go_enter Tryd.func31, Tryd.ntmps31
  go_wp2
  go_region
  go_wp2
  go_ret3
  exact ⟨rfl, by repeat (first | exact Drawn0.refl _ | apply Drawn0.step)⟩

set_option maxRecDepth 100000 in
theorem bool_one (s : ByteArray) (hs : s = ⟨#[63, 49]⟩) (w : World) : Calls Tryd.prog 22 #[.string s] w fun e w' => e = .returned (.tuple #[.bool true, .bool true]) ∧ Drawn0 w w' := by
  have x3 : s.toList = [63, 49] := by rw [hs, ByteArray.toList_eq]
  have y2 : (s.toList == [63, 49]) = true := by rw [x3]; decide
  have x6 : (⟨#[]⟩ : ByteArray).toList = [] := by rw [ByteArray.toList_eq]
  have c := fun w => parse_bool s hs w
  clear hs x3
  go_enter Tryd.func22, Tryd.ntmps22
  go_wp2_with (first | (go_at_call 31; refine (c _).mono ?_; rintro e w' ⟨rfl, ⟨nd, rfl⟩⟩))
  go_ret2
  exact ⟨rfl, by repeat (first | exact Drawn0.refl _ | apply Drawn0.step)⟩

set_option maxRecDepth 100000 in
theorem boolean_one (s : ByteArray) (hs : s = ⟨#[63, 49]⟩) (w : World) : Calls Tryd.prog 11 #[.string s] w fun e w' => e = .returned (.tuple #[.bool true, .bool true]) ∧ Drawn0 w w' := by
  have c := fun w => bool_one s hs w
  clear hs
  go_enter Tryd.func11, Tryd.ntmps11
  go_wp2_with (first | (go_at_call 22; refine (c _).mono ?_; rintro e w' ⟨rfl, ⟨nd, rfl⟩⟩))
  go_ret2
  exact ⟨rfl, by repeat (first | exact Drawn0.refl _ | apply Drawn0.step)⟩

set_option maxRecDepth 100000 in
theorem works_true (w : World) : Calls Tryd.prog 5 #[] w fun e w' => e = .returned (.bool true) ∧ Drawn0 w w' := by
  have c := fun w => boolean_one ⟨#[63, 49]⟩ rfl w
  go_enter Tryd.func5, Tryd.ntmps5
  go_wp2_with (first | (go_at_call 11; refine (c _).mono ?_; rintro e w' ⟨rfl, ⟨nd, rfl⟩⟩))
  go_ret
  exact ⟨rfl, by repeat (first | exact Drawn0.refl _ | apply Drawn0.step)⟩
end Go.Proofs.YtjalihaidhkofaaDoor.Hand
