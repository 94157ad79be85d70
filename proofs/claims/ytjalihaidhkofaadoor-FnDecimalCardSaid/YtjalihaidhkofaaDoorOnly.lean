/- Only (func 4): of a text that begins like no number it tells 0 or 2; of a number it tells what Number says. -/
import Derived.Test.YtjalihaidhkofaaDoorItem
namespace Go.Proofs.YtjalihaidhkofaaDoor.Hand
open Go.RowKit
open Go.Proofs.YtjalihaidhkofaaDoor

/-- What Only answers: some item and what the text is, of which Q holds. -/
def OnlyP (Q : Int → ByteArray → Int → Prop) (w : World) (e : Ending) (w' : World) : Prop :=
  ∃ (kind : Int) (text value : ByteArray) (odd : Bool) (told : Int), Q kind text told ∧
    e = .returned (.tuple #[.agg #[.int .i64 kind, .string text, .string value, .bool odd], .int .i64 told]) ∧ Below w.heap.size w w'

/-- The result's box, once one more block is laid. -/
theorem item_box2 {w W : World} {B k : Nat} (hB : B = ((w.alloc (.cells #[.int .i64 0, .string ⟨#[]⟩, .string ⟨#[]⟩, .bool false] 23)).drewN k).heap.size) (h : Below B ((w.alloc (.cells #[.int .i64 0, .string ⟨#[]⟩, .string ⟨#[]⟩, .bool false] 23)).drewN k) W) :
    (∀ o, (W.alloc o).cell? ⟨w.heap.size, 0, none⟩ = some (.int .i64 0)) ∧ (∀ o, (W.alloc o).cell? ⟨w.heap.size, 1, none⟩ = some (.string ⟨#[]⟩)) ∧ (∀ o, (W.alloc o).cell? ⟨w.heap.size, 2, none⟩ = some (.string ⟨#[]⟩)) ∧ (∀ o, (W.alloc o).cell? ⟨w.heap.size, 3, none⟩ = some (.bool false)) ∧
    (∀ o j, (W.alloc o).frozen? ⟨w.heap.size, j, none⟩ = false) ∧ Below w.heap.size w W ∧ w.heap.size < W.heap.size := by
  have hz : ((w.alloc (.cells #[.int .i64 0, .string ⟨#[]⟩, .string ⟨#[]⟩, .bool false] 23)).drewN k).heap.size = w.heap.size + 1 := by
    show (w.heap.push _).size = _; simp
  have hlt : w.heap.size < W.heap.size := by have := h.size; omega
  obtain ⟨q0, q1, q2, q3, qf, hb⟩ := item_box hB h
  exact ⟨fun o => by rw [World.cell?_alloc_past _ _ _ hlt]; exact q0, fun o => by rw [World.cell?_alloc_past _ _ _ hlt]; exact q1, fun o => by rw [World.cell?_alloc_past _ _ _ hlt]; exact q2,
    fun o => by rw [World.cell?_alloc_past _ _ _ hlt]; exact q3, fun o j => by rw [World.frozen?_alloc_past _ _ _ hlt]; exact qf j, hb, hlt⟩

set_option maxHeartbeats 4000000 in
set_option maxRecDepth 100000 in
theorem only_rest (s : ByteArray) (K : Int) (w : World) (hs : s.size ≤ 2147483647) (h0 : 0 < s.size) (hK : K = 1 ∨ K = 2) (h1 : bt s 0 ≠ 45) (h2 : bt s 0 < 48 ∨ 57 < bt s 0) :
    Calls Tryd.prog 4 #[.string s, .int .i64 K] w (OnlyP (fun _ _ told => told = 2 ∨ told = 0) w) := by
  have ci := fun w => item_rest s w hs h0 h1 h2
  have hx0 : ∀ h : 0 < s.size, ((s[0]'h).toNat : Int) = bt s 0 := bt_at s 0
  have hi0 : ((0 : Int) < s.size) = True := eq_true (by omega)
  have hd0 : (0 < s.size) = True := eq_true (by omega)
  have hxl : ∀ h : ((s.size : Int) - 1).toNat < s.size, ((s[((s.size : Int) - 1).toNat]'h).toNat : Int) = bt s ((s.size : Int) - 1) := bt_at s _
  have ql : ((s.size : Int) - 1 < s.size) = True := eq_true (by omega)
  have ql0 : (0 ≤ (s.size : Int) - 1) = True := eq_true (by omega)
  have qln : (((s.size : Int) - 1).toNat < s.size) = True := eq_true (by omega)
  have q1i : ((1 : Int) ≤ s.size) = True := eq_true (by omega)
  have q1n : (1 ≤ s.size) = True := eq_true (by omega)
  have e1 := full_beq h0
  have e2 := full_bne h0
  have e3 := full_empty h0
  have e4 := full_not h0
  have ca := fun c w => among_any c ⟨#[32, 9]⟩ w (by decide)
  clear h1 h2 h0
  go_enter Tryd.func4, Tryd.ntmps4
  go_wp2_with (first | (go_at_call 9; refine (ci _).mono ?_; rintro e W ⟨kind, text, value, odd, ok, hk1, hk2, rfl, hbe⟩; obtain ⟨q0, q1, q2, q3, qf, hbx, hlt⟩ := item_box2 (k := 0) rfl hbe; have hne : (w.heap.size = W.heap.size) = False := eq_false (by omega); have hne2 : (W.heap.size = w.heap.size) = False := eq_false (by omega); have HLT := Lib.hid hlt; clear hlt; have HBX := Lib.hid hbx; clear hbx hbe; have hkK : (kind != K) = true := bne_iff_ne.mpr (by rcases hK with rfl | rfl <;> assumption); have hkK2 : (kind == K) = false := beq_eq_false_iff_ne.mpr (by rcases hK with rfl | rfl <;> assumption); clear hk1 hk2; cases odd <;> cases ok) | (go_at_call 10; refine (ca _ _).mono ?_; rintro e w' ⟨b, rfl, ⟨nd, rfl⟩⟩))
  all_goals first
    | (refine bodyPost_ret (v := .tuple #[.agg #[.int .i64 kind, .string text, .string value, .bool false], .int .i64 2]) ?r rfl ⟨kind, text, value, _, 2, Or.inl rfl, rfl, ?b⟩; (case r => simp [results, Tryd.results4, go_sem, q0, q1, q2, q3]; done); (case b => exact below_four (by repeat (first | exact HBX.out.alloc (Nat.le_of_lt HLT.out) _ | apply Below.drewN')) _ _ _ _))
    | (refine bodyPost_ret (v := .tuple #[.agg #[.int .i64 kind, .string text, .string value, .bool true], .int .i64 2]) ?r rfl ⟨kind, text, value, _, 2, Or.inl rfl, rfl, ?b⟩; (case r => simp [results, Tryd.results4, go_sem, q0, q1, q2, q3]; done); (case b => exact below_four (by repeat (first | exact HBX.out.alloc (Nat.le_of_lt HLT.out) _ | apply Below.drewN')) _ _ _ _))
    | (refine bodyPost_ret (v := .tuple #[.agg #[.int .i64 kind, .string text, .string value, .bool false], .int .i64 0]) ?r rfl ⟨kind, text, value, _, 0, Or.inr rfl, rfl, ?b⟩; (case r => simp [results, Tryd.results4, go_sem, q0, q1, q2, q3]; done); (case b => exact below_four (by repeat (first | exact HBX.out.alloc (Nat.le_of_lt HLT.out) _ | apply Below.drewN')) _ _ _ _))
    | (exfalso; simp_all; done)

set_option maxHeartbeats 4000000 in
set_option maxRecDepth 100000 in
theorem only_bad (s t : ByteArray) (kd K : Int) (w : World) (hs : s.size ≤ 2147483647) (h0 : 0 < s.size) 
    (c : ∀ w, Calls Tryd.prog 9 #[.string s] w fun e w' => e = .returned (.tuple #[.agg #[.int .i64 kd, .string t, .string ⟨#[]⟩, .bool false], .bool false]) ∧ Below w.heap.size w w') :
    Calls Tryd.prog 4 #[.string s, .int .i64 K] w (OnlyP (fun kind text told => kind = kd ∧ text = t ∧ (told = 2 ∨ told = 0)) w) := by
  have hx0 : ∀ h : 0 < s.size, ((s[0]'h).toNat : Int) = bt s 0 := bt_at s 0
  have hi0 : ((0 : Int) < s.size) = True := eq_true (by omega)
  have hd0 : (0 < s.size) = True := eq_true (by omega)
  have hxl : ∀ h : ((s.size : Int) - 1).toNat < s.size, ((s[((s.size : Int) - 1).toNat]'h).toNat : Int) = bt s ((s.size : Int) - 1) := bt_at s _
  have ql : ((s.size : Int) - 1 < s.size) = True := eq_true (by omega)
  have ql0 : (0 ≤ (s.size : Int) - 1) = True := eq_true (by omega)
  have qln : (((s.size : Int) - 1).toNat < s.size) = True := eq_true (by omega)
  have q1i : ((1 : Int) ≤ s.size) = True := eq_true (by omega)
  have q1n : (1 ≤ s.size) = True := eq_true (by omega)
  have e1 := full_beq h0
  have e2 := full_bne h0
  have e3 := full_empty h0
  have e4 := full_not h0
  have ca := fun c w => among_any c ⟨#[32, 9]⟩ w (by decide)
  clear h0
  go_enter Tryd.func4, Tryd.ntmps4
  go_wp2_with (first | (go_at_call 9; refine (c _).mono ?_; rintro e W ⟨rfl, hbe⟩; obtain ⟨q0, q1, q2, q3, qf, hbx, hlt⟩ := item_box2 (k := 0) rfl hbe; have hne : (w.heap.size = W.heap.size) = False := eq_false (by omega); have hne2 : (W.heap.size = w.heap.size) = False := eq_false (by omega); have HLT := Lib.hid hlt; clear hlt; have HBX := Lib.hid hbx; clear hbx hbe) | (go_at_call 10; refine (ca _ _).mono ?_; rintro e w' ⟨b, rfl, ⟨nd, rfl⟩⟩))
  all_goals first
    | (refine bodyPost_ret (v := .tuple #[.agg #[.int .i64 kd, .string t, .string ⟨#[]⟩, .bool false], .int .i64 2]) ?r rfl ⟨kd, t, _, _, 2, ⟨rfl, rfl, Or.inl rfl⟩, rfl, ?b⟩; (case r => simp [results, Tryd.results4, go_sem, q0, q1, q2, q3]; done); (case b => exact below_four (by repeat (first | exact HBX.out.alloc (Nat.le_of_lt HLT.out) _ | apply Below.drewN')) _ _ _ _))
    | (refine bodyPost_ret (v := .tuple #[.agg #[.int .i64 kd, .string t, .string ⟨#[]⟩, .bool false], .int .i64 0]) ?r rfl ⟨kd, t, _, _, 0, ⟨rfl, rfl, Or.inr rfl⟩, rfl, ?b⟩; (case r => simp [results, Tryd.results4, go_sem, q0, q1, q2, q3]; done); (case b => exact below_four (by repeat (first | exact HBX.out.alloc (Nat.le_of_lt HLT.out) _ | apply Below.drewN')) _ _ _ _))
    | (exfalso; simp_all; done)

set_option maxHeartbeats 4000000 in
set_option maxRecDepth 100000 in
theorem only_kind (s t : ByteArray) (kd K : Int) (w : World) (hs : s.size ≤ 2147483647) (h0 : 0 < s.size) (hk : kd ≠ K)
    (c : ∀ w, Calls Tryd.prog 9 #[.string s] w fun e w' => e = .returned (.tuple #[.agg #[.int .i64 kd, .string t, .string ⟨#[]⟩, .bool false], .bool true]) ∧ Below w.heap.size w w') :
    Calls Tryd.prog 4 #[.string s, .int .i64 K] w (OnlyP (fun kind text told => kind = kd ∧ text = t ∧ (told = 2 ∨ told = 0)) w) := by
  have hx0 : ∀ h : 0 < s.size, ((s[0]'h).toNat : Int) = bt s 0 := bt_at s 0
  have hi0 : ((0 : Int) < s.size) = True := eq_true (by omega)
  have hd0 : (0 < s.size) = True := eq_true (by omega)
  have hxl : ∀ h : ((s.size : Int) - 1).toNat < s.size, ((s[((s.size : Int) - 1).toNat]'h).toNat : Int) = bt s ((s.size : Int) - 1) := bt_at s _
  have ql : ((s.size : Int) - 1 < s.size) = True := eq_true (by omega)
  have ql0 : (0 ≤ (s.size : Int) - 1) = True := eq_true (by omega)
  have qln : (((s.size : Int) - 1).toNat < s.size) = True := eq_true (by omega)
  have q1i : ((1 : Int) ≤ s.size) = True := eq_true (by omega)
  have q1n : (1 ≤ s.size) = True := eq_true (by omega)
  have e1 := full_beq h0
  have e2 := full_bne h0
  have e3 := full_empty h0
  have e4 := full_not h0
  have ca := fun c w => among_any c ⟨#[32, 9]⟩ w (by decide)
  have hkK : (kd != K) = true := bne_iff_ne.mpr hk
  have hkK2 : (kd == K) = false := beq_eq_false_iff_ne.mpr hk
  clear hk
  clear h0
  go_enter Tryd.func4, Tryd.ntmps4
  go_wp2_with (first | (go_at_call 9; refine (c _).mono ?_; rintro e W ⟨rfl, hbe⟩; obtain ⟨q0, q1, q2, q3, qf, hbx, hlt⟩ := item_box2 (k := 0) rfl hbe; have hne : (w.heap.size = W.heap.size) = False := eq_false (by omega); have hne2 : (W.heap.size = w.heap.size) = False := eq_false (by omega); have HLT := Lib.hid hlt; clear hlt; have HBX := Lib.hid hbx; clear hbx hbe) | (go_at_call 10; refine (ca _ _).mono ?_; rintro e w' ⟨b, rfl, ⟨nd, rfl⟩⟩))
  all_goals first
    | (refine bodyPost_ret (v := .tuple #[.agg #[.int .i64 kd, .string t, .string ⟨#[]⟩, .bool false], .int .i64 2]) ?r rfl ⟨kd, t, _, _, 2, ⟨rfl, rfl, Or.inl rfl⟩, rfl, ?b⟩; (case r => simp [results, Tryd.results4, go_sem, q0, q1, q2, q3]; done); (case b => exact below_four (by repeat (first | exact HBX.out.alloc (Nat.le_of_lt HLT.out) _ | apply Below.drewN')) _ _ _ _))
    | (refine bodyPost_ret (v := .tuple #[.agg #[.int .i64 kd, .string t, .string ⟨#[]⟩, .bool false], .int .i64 0]) ?r rfl ⟨kd, t, _, _, 0, ⟨rfl, rfl, Or.inr rfl⟩, rfl, ?b⟩; (case r => simp [results, Tryd.results4, go_sem, q0, q1, q2, q3]; done); (case b => exact below_four (by repeat (first | exact HBX.out.alloc (Nat.le_of_lt HLT.out) _ | apply Below.drewN')) _ _ _ _))
    | (exfalso; simp_all; done)

set_option maxHeartbeats 4000000 in
set_option maxRecDepth 100000 in
theorem only_short (s t : ByteArray) (kd K : Int) (w : World) (hs : s.size ≤ 2147483647) (h0 : 0 < s.size) (hk : kd = K) (ht : t.size < s.size)
    (c : ∀ w, Calls Tryd.prog 9 #[.string s] w fun e w' => e = .returned (.tuple #[.agg #[.int .i64 kd, .string t, .string ⟨#[]⟩, .bool false], .bool true]) ∧ Below w.heap.size w w') :
    Calls Tryd.prog 4 #[.string s, .int .i64 K] w (OnlyP (fun kind text told => kind = kd ∧ text = t ∧ (told = 2 ∨ told = 0)) w) := by
  have hx0 : ∀ h : 0 < s.size, ((s[0]'h).toNat : Int) = bt s 0 := bt_at s 0
  have hi0 : ((0 : Int) < s.size) = True := eq_true (by omega)
  have hd0 : (0 < s.size) = True := eq_true (by omega)
  have hxl : ∀ h : ((s.size : Int) - 1).toNat < s.size, ((s[((s.size : Int) - 1).toNat]'h).toNat : Int) = bt s ((s.size : Int) - 1) := bt_at s _
  have ql : ((s.size : Int) - 1 < s.size) = True := eq_true (by omega)
  have ql0 : (0 ≤ (s.size : Int) - 1) = True := eq_true (by omega)
  have qln : (((s.size : Int) - 1).toNat < s.size) = True := eq_true (by omega)
  have q1i : ((1 : Int) ≤ s.size) = True := eq_true (by omega)
  have q1n : (1 ≤ s.size) = True := eq_true (by omega)
  have e1 := full_beq h0
  have e2 := full_bne h0
  have e3 := full_empty h0
  have e4 := full_not h0
  have ca := fun c w => among_any c ⟨#[32, 9]⟩ w (by decide)
  subst hk
  have hkK : (kd != kd) = false := by simp
  have hkK2 : (kd == kd) = true := by simp
  have hl1 : decide ((t.size : Int) < s.size) = true := decide_eq_true (by omega)
  have hl2 : ((t.size : Int) < s.size) = True := eq_true (by omega)
  have hl3 : (t.size < s.size) = True := eq_true ht
  have HT := Lib.hid ht
  clear ht
  clear h0
  go_enter Tryd.func4, Tryd.ntmps4
  go_wp2_with (first | (go_at_call 9; refine (c _).mono ?_; rintro e W ⟨rfl, hbe⟩; obtain ⟨q0, q1, q2, q3, qf, hbx, hlt⟩ := item_box2 (k := 0) rfl hbe; have hne : (w.heap.size = W.heap.size) = False := eq_false (by omega); have hne2 : (W.heap.size = w.heap.size) = False := eq_false (by omega); have HLT := Lib.hid hlt; clear hlt; have HBX := Lib.hid hbx; clear hbx hbe) | (go_at_call 10; refine (ca _ _).mono ?_; rintro e w' ⟨b, rfl, ⟨nd, rfl⟩⟩))
  all_goals first
    | (refine bodyPost_ret (v := .tuple #[.agg #[.int .i64 kd, .string t, .string ⟨#[]⟩, .bool false], .int .i64 2]) ?r rfl ⟨kd, t, _, _, 2, ⟨rfl, rfl, Or.inl rfl⟩, rfl, ?b⟩; (case r => simp [results, Tryd.results4, go_sem, q0, q1, q2, q3]; done); (case b => exact below_four (by repeat (first | exact HBX.out.alloc (Nat.le_of_lt HLT.out) _ | apply Below.drewN')) _ _ _ _))
    | (refine bodyPost_ret (v := .tuple #[.agg #[.int .i64 kd, .string t, .string ⟨#[]⟩, .bool false], .int .i64 0]) ?r rfl ⟨kd, t, _, _, 0, ⟨rfl, rfl, Or.inr rfl⟩, rfl, ?b⟩; (case r => simp [results, Tryd.results4, go_sem, q0, q1, q2, q3]; done); (case b => exact below_four (by repeat (first | exact HBX.out.alloc (Nat.le_of_lt HLT.out) _ | apply Below.drewN')) _ _ _ _))
    | (exfalso; simp_all; done)

set_option maxHeartbeats 4000000 in
set_option maxRecDepth 100000 in
theorem only_fine (s t : ByteArray) (kd K : Int) (w : World) (hs : s.size ≤ 2147483647) (h0 : 0 < s.size) (hk : kd = K) (ht : t.size = s.size)
    (c : ∀ w, Calls Tryd.prog 9 #[.string s] w fun e w' => e = .returned (.tuple #[.agg #[.int .i64 kd, .string t, .string ⟨#[]⟩, .bool false], .bool true]) ∧ Below w.heap.size w w') :
    Calls Tryd.prog 4 #[.string s, .int .i64 K] w (OnlyP (fun kind text told => kind = kd ∧ text = t ∧ (told = 2 ∨ told = 1)) w) := by
  have hx0 : ∀ h : 0 < s.size, ((s[0]'h).toNat : Int) = bt s 0 := bt_at s 0
  have hi0 : ((0 : Int) < s.size) = True := eq_true (by omega)
  have hd0 : (0 < s.size) = True := eq_true (by omega)
  have hxl : ∀ h : ((s.size : Int) - 1).toNat < s.size, ((s[((s.size : Int) - 1).toNat]'h).toNat : Int) = bt s ((s.size : Int) - 1) := bt_at s _
  have ql : ((s.size : Int) - 1 < s.size) = True := eq_true (by omega)
  have ql0 : (0 ≤ (s.size : Int) - 1) = True := eq_true (by omega)
  have qln : (((s.size : Int) - 1).toNat < s.size) = True := eq_true (by omega)
  have q1i : ((1 : Int) ≤ s.size) = True := eq_true (by omega)
  have q1n : (1 ≤ s.size) = True := eq_true (by omega)
  have e1 := full_beq h0
  have e2 := full_bne h0
  have e3 := full_empty h0
  have e4 := full_not h0
  have ca := fun c w => among_any c ⟨#[32, 9]⟩ w (by decide)
  subst hk
  have hkK : (kd != kd) = false := by simp
  have hkK2 : (kd == kd) = true := by simp
  have hl1 : decide ((t.size : Int) < s.size) = false := decide_eq_false (by omega)
  have hl2 : ((t.size : Int) < s.size) = False := eq_false (by omega)
  have hl3 : (t.size < s.size) = False := eq_false (by omega)
  have HT := Lib.hid ht
  clear ht
  clear h0
  go_enter Tryd.func4, Tryd.ntmps4
  go_wp2_with (first | (go_at_call 9; refine (c _).mono ?_; rintro e W ⟨rfl, hbe⟩; obtain ⟨q0, q1, q2, q3, qf, hbx, hlt⟩ := item_box2 (k := 0) rfl hbe; have hne : (w.heap.size = W.heap.size) = False := eq_false (by omega); have hne2 : (W.heap.size = w.heap.size) = False := eq_false (by omega); have HLT := Lib.hid hlt; clear hlt; have HBX := Lib.hid hbx; clear hbx hbe) | (go_at_call 10; refine (ca _ _).mono ?_; rintro e w' ⟨b, rfl, ⟨nd, rfl⟩⟩))
  all_goals first
    | (refine bodyPost_ret (v := .tuple #[.agg #[.int .i64 kd, .string t, .string ⟨#[]⟩, .bool false], .int .i64 2]) ?r rfl ⟨kd, t, _, _, 2, ⟨rfl, rfl, Or.inl rfl⟩, rfl, ?b⟩; (case r => simp [results, Tryd.results4, go_sem, q0, q1, q2, q3]; done); (case b => exact below_four (by repeat (first | exact HBX.out.alloc (Nat.le_of_lt HLT.out) _ | apply Below.drewN')) _ _ _ _))
    | (refine bodyPost_ret (v := .tuple #[.agg #[.int .i64 kd, .string t, .string ⟨#[]⟩, .bool false], .int .i64 1]) ?r rfl ⟨kd, t, _, _, 1, ⟨rfl, rfl, Or.inr rfl⟩, rfl, ?b⟩; (case r => simp [results, Tryd.results4, go_sem, q0, q1, q2, q3]; done); (case b => exact below_four (by repeat (first | exact HBX.out.alloc (Nat.le_of_lt HLT.out) _ | apply Below.drewN')) _ _ _ _))
    | (exfalso; simp_all; done)

end Go.Proofs.YtjalihaidhkofaaDoor.Hand
