/- Words that all walks of this claim use: a text's byte at a place; a world in which nothing but orders has been drawn; min of two whole numbers. -/
import Derived.Test.YtjalihaidhkofaaDoorProg
import Derived.Below
import Derived.Deep.Draws
import Derived.OwnWalk
import Derived.Tactics
import Derived.Laws.Slices
import Derived.WalkKit
import Derived.KernelRfl
import Derived.RowKit3
import Derived.Deep.LoopGhost
import Derived.Deep.QuietTactic
import Derived.BigQuiet
import Derived.WideLaws
import Derived.Laws.BitsLemmas
import Derived.WalkLawsBesides
import Derived.Lib.Hide
namespace Go.Proofs.YtjalihaidhkofaaDoor.Hand
open Go.RowKit
open Go.Proofs.YtjalihaidhkofaaDoor

/-- The byte at place i of a text as a whole number; 0 outside. -/
def bt (s : ByteArray) (i : Int) : Int := ((s.data.toList.getD i.toNat 0).toNat : Int)

theorem bt_at (s : ByteArray) (i : Int) : ∀ h : i.toNat < s.size, ((s[i.toNat]'h).toNat : Int) = bt s i := by
  intro h
  have hl : i.toNat < s.data.toList.length := by simpa using h
  unfold bt
  rw [List.getD_eq_getElem?_getD, List.getElem?_eq_getElem hl]
  rfl

theorem bt_range (s : ByteArray) (i : Int) : 0 ≤ bt s i ∧ bt s i ≤ 255 := by
  unfold bt
  have := (s.data.toList.getD i.toNat 0).toNat_lt
  omega

/-- Nothing has turned, but that orders were drawn. -/
def Drawn0 (w w' : World) : Prop := ∃ n : Nat, w' = w.drewN n
theorem Drawn0.refl (w : World) : Drawn0 w w := ⟨0, rfl⟩
theorem Drawn0.step {w w' : World} (h : Drawn0 w w') (n : Nat) : Drawn0 w (w'.drewN n) := by
  obtain ⟨m, rfl⟩ := h
  exact ⟨m + n, World.drewN_drewN ..⟩
theorem Drawn0.below {w w' : World} (h : Drawn0 w w') : Below w.heap.size w w' := by
  obtain ⟨n, rfl⟩ := h
  induction n with
  | zero => exact Below.refl _ _
  | succ n ih => rw [← World.drew_drewN]; exact ih.drew

theorem min_pair (k k' : IntKind) (ats : Array TypeId) (ty : TypeId) (x y : Int) :
    Builtin.min_ ats ty #[.int k x, .int k' y] = pure (.int k (if y < x then y else x)) := by
  simp [Builtin.min_, Builtin.min2]

end Go.Proofs.YtjalihaidhkofaaDoor.Hand
