/- The walks of Item: of a text that begins as a number does, its kind and text; of any other, that it is no number. -/
import Derived.Test.YtjalihaidhkofaaDoorNum
import Derived.Test.YtjalihaidhkofaaDoorDisp
import Derived.StillTailTactics
import Derived.Test.YtjalihaidhkofaaDoorRow64
namespace Go.Proofs.YtjalihaidhkofaaDoor.Hand
open Go.RowKit
open Go.Proofs.YtjalihaidhkofaaDoor

theorem below_four {w W : World} (h : Below w.heap.size w W) (a b c d : Value) :
    Below w.heap.size w ((((W.setCell ⟨w.heap.size, 0, none⟩ a).setCell ⟨w.heap.size, 1, none⟩ b).setCell ⟨w.heap.size, 2, none⟩ c).setCell ⟨w.heap.size, 3, none⟩ d) :=
  (((h.setCell (Nat.le_refl _) a).setCell (Nat.le_refl _) b).setCell (Nat.le_refl _) c).setCell (Nat.le_refl _) d

set_option maxHeartbeats 1000000 in
set_option maxRecDepth 100000 in
/-- Item of a text that begins as a number does. -/
theorem item_num (s : ByteArray) (w : World) (hs : s.size ≤ 2147483647) (h0 : 0 < s.size) (h : bt s 0 = 45 ∨ (48 ≤ bt s 0 ∧ bt s 0 ≤ 57)) (t : ByteArray) (d ok : Bool)
    (c : ∀ w, Calls Tryd.prog 15 #[.string s] w fun e w' => e = .returned (.tuple #[.string t, .bool d, .bool ok]) ∧ Drawn0 w w') :
    Calls Tryd.prog 9 #[.string s] w fun e w' => e = .returned (.tuple #[.agg #[.int .i64 (if d then 2 else 1), .string t, .string ⟨#[]⟩, .bool false], .bool ok]) ∧ Below w.heap.size w w' := by
  have hx0 : ∀ h : 0 < s.size, ((s[0]'h).toNat : Int) = bt s 0 := bt_at s 0
  have hi0 : ((0 : Int) < s.size) = True := eq_true (by omega)
  have hd0 : (0 < s.size) = True := eq_true (by omega)
  have e1 := full_beq h0
  have e3 := full_empty h0
  have H0 := Lib.hid h0; clear h0
  have cd := fun w => digit_any (bt s 0) w
  rcases h with h | ⟨h1, h2⟩
  · have t45 : (bt s 0 == 45) = true := beq_iff_eq.mpr h
    have H := Lib.hid h; clear h cd
    cases d
    all_goals
      go_enter Tryd.func9, Tryd.ntmps9
      go_wp2_with (first | (go_at_call 15; refine (c _).mono ?_; rintro e w' ⟨rfl, ⟨nd, rfl⟩⟩))
    · refine bodyPost_ret (v := .tuple #[.agg #[.int .i64 1, .string t, .string ⟨#[]⟩, .bool false], .bool ok]) (by simp [results, Tryd.results9, go_sem]) rfl ⟨rfl, ?_⟩
      exact below_four (by repeat (first | exact (Below.refl _ _).alloc (Nat.le_refl _) _ | apply Below.drewN')) _ _ _ _
    · refine bodyPost_ret (v := .tuple #[.agg #[.int .i64 2, .string t, .string ⟨#[]⟩, .bool false], .bool ok]) (by simp [results, Tryd.results9, go_sem]) rfl ⟨rfl, ?_⟩
      exact below_four (by repeat (first | exact (Below.refl _ _).alloc (Nat.le_refl _) _ | apply Below.drewN')) _ _ _ _
  · have t45 : (bt s 0 == 45) = false := beq_eq_false_iff_ne.mpr (by omega)
    have cy := fun w => digit_yes (bt s 0) w h1 h2
    clear h1 h2 cd
    cases d
    all_goals
      go_enter Tryd.func9, Tryd.ntmps9
      go_wp2_with (first | (go_at_call 14; refine (cy _).mono ?_; rintro e w' ⟨rfl, ⟨nd0, rfl⟩⟩) | (go_at_call 15; refine (c _).mono ?_; rintro e w' ⟨rfl, ⟨nd, rfl⟩⟩))
    · refine bodyPost_ret (v := .tuple #[.agg #[.int .i64 1, .string t, .string ⟨#[]⟩, .bool false], .bool ok]) (by simp [results, Tryd.results9, go_sem]) rfl ⟨rfl, ?_⟩
      exact below_four (by repeat (first | exact (Below.refl _ _).alloc (Nat.le_refl _) _ | apply Below.drewN')) _ _ _ _
    · refine bodyPost_ret (v := .tuple #[.agg #[.int .i64 2, .string t, .string ⟨#[]⟩, .bool false], .bool ok]) (by simp [results, Tryd.results9, go_sem]) rfl ⟨rfl, ?_⟩
      exact below_four (by repeat (first | exact (Below.refl _ _).alloc (Nat.le_refl _) _ | apply Below.drewN')) _ _ _ _


theorem drawn_one (W : World) : ({ heap := W.heap, tape := W.tape, drawn := W.drawn + 1, os := W.os, output := W.output } : World) = W.drewN 1 := rfl

/-- The result's box, behind calls that leave it alone. -/
theorem item_box {w W : World} {B k : Nat} (hB : B = ((w.alloc (.cells #[.int .i64 0, .string ⟨#[]⟩, .string ⟨#[]⟩, .bool false] 23)).drewN k).heap.size) (h : Below B ((w.alloc (.cells #[.int .i64 0, .string ⟨#[]⟩, .string ⟨#[]⟩, .bool false] 23)).drewN k) W) :
    W.cell? ⟨w.heap.size, 0, none⟩ = some (.int .i64 0) ∧ W.cell? ⟨w.heap.size, 1, none⟩ = some (.string ⟨#[]⟩) ∧ W.cell? ⟨w.heap.size, 2, none⟩ = some (.string ⟨#[]⟩) ∧ W.cell? ⟨w.heap.size, 3, none⟩ = some (.bool false) ∧
    (∀ j, W.frozen? ⟨w.heap.size, j, none⟩ = false) ∧ Below w.heap.size w W := by
  have hz : ((w.alloc (.cells #[.int .i64 0, .string ⟨#[]⟩, .string ⟨#[]⟩, .bool false] 23)).drewN k).heap.size = w.heap.size + 1 := by
    show (w.heap.push _).size = _; simp
  rw [hz] at hB
  subst hB
  have hlt : w.heap.size < w.heap.size + 1 := by omega
  have hc : ∀ j, W.cell? ⟨w.heap.size, j, none⟩ = (w.alloc (.cells #[.int .i64 0, .string ⟨#[]⟩, .string ⟨#[]⟩, .bool false] 23)).cell? ⟨w.heap.size, j, none⟩ := fun j => h.cell (p := ⟨w.heap.size, j, none⟩) hlt
  have hf : ∀ j, W.frozen? ⟨w.heap.size, j, none⟩ = (w.alloc (.cells #[.int .i64 0, .string ⟨#[]⟩, .string ⟨#[]⟩, .bool false] 23)).frozen? ⟨w.heap.size, j, none⟩ := fun j => h.frozen (p := ⟨w.heap.size, j, none⟩) hlt
  refine ⟨?_, ?_, ?_, ?_, ?_, ?_⟩
  · rw [hc, World.cell?_alloc_at _ _ _ _ rfl]; rfl
  · rw [hc, World.cell?_alloc_at _ _ _ _ rfl]; rfl
  · rw [hc, World.cell?_alloc_at _ _ _ _ rfl]; rfl
  · rw [hc, World.cell?_alloc_at _ _ _ _ rfl]; rfl
  · intro j; rw [hf, World.frozen?_alloc_at _ _ _ _ rfl]
  · exact (Below.drewN' ((Below.refl _ _).alloc (Nat.le_refl _) _) k).trans (h.mono (by omega))

/-- Some item that is no number. -/
def SomeItem (w : World) (e : Ending) (w' : World) : Prop :=
  ∃ (kind : Int) (text value : ByteArray) (odd ok : Bool), kind ≠ 1 ∧ kind ≠ 2 ∧ e = .returned (.tuple #[.agg #[.int .i64 kind, .string text, .string value, .bool odd], .bool ok]) ∧ Below w.heap.size w w'

set_option maxRecDepth 100000 in
theorem number_empty (w : World) : Calls Tryd.prog 15 #[.string ByteArray.empty] w fun e w' => e = .returned (.tuple #[.string ⟨#[]⟩, .bool false, .bool false]) ∧ Drawn0 w w' := by
  have hz : ByteArray.empty.size = 0 := rfl
  have hl : ByteArray.empty.toList = [] := by rw [ByteArray.toList_eq]; rfl
  have cn := fun w => number_none ByteArray.empty 0 (-1) w rfl
  go_enter Tryd.func15, Tryd.ntmps15
  go_wp2
  refine wp_loop_rounds 1 ?_
  rw [rounds_succ]
  go_wp2_with (first | (go_at_call 26; refine (cn _).mono ?_; rintro e w' ⟨rfl, ⟨nd, rfl⟩⟩))
  go_ret3
  exact ⟨rfl, by repeat (first | exact Drawn0.refl _ | apply Drawn0.step)⟩

theorem outN_size (s : ByteArray) (o j k : Nat) : (outN s o j k).1.size ≤ s.size := by
  unfold outN
  split
  · split
    · exact Nat.zero_le _
    · simp; omega
  · split
    · exact Nat.zero_le _
    · simp; omega

/-- Number answers something at every text. -/
theorem number_all (s : ByteArray) (hs : s.size ≤ 2147483647) : ∃ (r1 : ByteArray) (r2 r3 : Bool), r1.size ≤ s.size ∧
    ∀ w, Calls Tryd.prog 15 #[.string s] w fun e w' => e = .returned (.tuple #[.string r1, .bool r2, .bool r3]) ∧ Drawn0 w w' := by
  by_cases h0 : 0 < s.size
  · by_cases hm : bt s 0 = 45
    · obtain ⟨j, hj⟩ := run_exists s (s.size - 1) 1 h0 rfl
      by_cases hjs : j < s.size
      · obtain ⟨k, hk⟩ := run_exists s (s.size - (j + 1)) (j + 1) hjs rfl
        exact ⟨_, _, _, outN_size s 1 j k, fun w => number_minus s j k w hs hm h0 hj (fun _ => hk)⟩
      · exact ⟨_, _, _, outN_size s 1 j 0, fun w => number_minus s j 0 w hs hm h0 hj (fun h => absurd h hjs)⟩
    · obtain ⟨j, hj⟩ := run_exists s s.size 0 (Nat.zero_le _) rfl
      by_cases hjs : j < s.size
      · obtain ⟨k, hk⟩ := run_exists s (s.size - (j + 1)) (j + 1) hjs rfl
        exact ⟨_, _, _, outN_size s 0 j k, fun w => number_plus s j k w hs hm h0 hj (fun _ => hk)⟩
      · exact ⟨_, _, _, outN_size s 0 j 0, fun w => number_plus s j 0 w hs hm h0 hj (fun h => absurd h hjs)⟩
  · obtain rfl : s = ByteArray.empty := ByteArray.size_eq_zero_iff.mp (by omega)
    exact ⟨⟨#[]⟩, false, false, Nat.zero_le _, number_empty⟩

set_option maxHeartbeats 4000000 in
set_option maxRecDepth 100000 in
theorem item_star (s : ByteArray) (w : World) (hs : s.size ≤ 2147483647) (h0 : 0 < s.size) (h3 : bt s 0 = 42) : Calls Tryd.prog 9 #[.string s] w (SomeItem w) := by
  have hx0 : ∀ h : 0 < s.size, ((s[0]'h).toNat : Int) = 42 := fun h => (bt_at s 0 h).trans h3
  have hi0 : ((0 : Int) < s.size) = True := eq_true (by omega)
  have hd0 : (0 < s.size) = True := eq_true (by omega)
  have e1 := full_beq h0
  have e3 := full_empty h0
  have cn := fun w => digit_no 42 w (by omega)
  have cl := fun w => letter_any 42 w
  have ct := fun w => token_any s w hs h0
  have H0 := Lib.hid h0; clear h0
  clear h3 cl
  go_enter Tryd.func9, Tryd.ntmps9
  go_wp2_with (first | (go_at_call 14; refine (cn _).mono ?_; rintro e w' ⟨rfl, ⟨nd0, rfl⟩⟩) | (go_at_call 18; refine (ct _).mono ?_; rintro e w' ⟨n, hn, rfl, ⟨nd, rfl⟩⟩; have hq := eq_true hn; have hqi : ((n : Int) ≤ s.size) = True := eq_true (by omega); clear hn))
  · skip
    go_still_tail 7, (by kernel_rfl)
    rw [drawn_one]
    go_wp2
    refine bodyPost_ret (v := .tuple #[.agg #[.int .i64 4, .string (s.extract 0 n), .string (s.extract 0 n), .bool false], .bool true]) (by simp [results, Tryd.results9, go_sem]) rfl ⟨4, _, _, _, _, by decide, by decide, rfl, ?_⟩
    exact below_four (by repeat (first | exact (Below.refl _ _).alloc (Nat.le_refl _) _ | apply Below.drewN')) _ _ _ _

set_option maxHeartbeats 4000000 in
set_option maxRecDepth 100000 in
theorem item_quoted (s : ByteArray) (w : World) (hs : s.size ≤ 2147483647) (h0 : 0 < s.size) (h3 : bt s 0 = 34) : Calls Tryd.prog 9 #[.string s] w (SomeItem w) := by
  have hx0 : ∀ h : 0 < s.size, ((s[0]'h).toNat : Int) = 34 := fun h => (bt_at s 0 h).trans h3
  have hi0 : ((0 : Int) < s.size) = True := eq_true (by omega)
  have hd0 : (0 < s.size) = True := eq_true (by omega)
  have e1 := full_beq h0
  have e3 := full_empty h0
  have cn := fun w => digit_no 34 w (by omega)
  have cl := fun w => letter_any 34 w
  have ct := fun w => token_any s w hs h0
  have cq := fun w => quoted_any s w hs h0 h3
  have H0 := Lib.hid h0; clear h0
  clear h3 cl ct
  go_enter Tryd.func9, Tryd.ntmps9
  go_wp2_with (first | (go_at_call 14; refine (cn _).mono ?_; rintro e w' ⟨rfl, ⟨nd0, rfl⟩⟩) | (go_at_call 16; refine (cq _).mono ?_; rintro e W ⟨n, t, b, hn, ht, rfl, hbe⟩; obtain ⟨q0, q1, q2, q3, qf, hbx⟩ := item_box rfl hbe; have HBX := Lib.hid hbx; clear hbx hbe; have hq := eq_true hn; have hqi : ((n : Int) ≤ s.size) = True := eq_true (by omega); clear hn ht))
  refine bodyPost_ret (v := .tuple #[.agg #[.int .i64 3, .string (s.extract 0 n), .string t, .bool false], .bool b]) (by simp [results, Tryd.results9, go_sem, q0, q1, q2, q3]) rfl ⟨3, _, _, _, _, by decide, by decide, rfl, ?_⟩
  (repeat (first | apply Below.drewN' | apply Below.drew)); exact below_four (by repeat (first | exact HBX.out | apply Below.drewN' | apply Below.drew)) _ _ _ _

set_option maxHeartbeats 4000000 in
set_option maxRecDepth 100000 in
theorem item_bytes (s : ByteArray) (w : World) (hs : s.size ≤ 2147483647) (h0 : 0 < s.size) (h3 : bt s 0 = 58) : Calls Tryd.prog 9 #[.string s] w (SomeItem w) := by
  have hx0 : ∀ h : 0 < s.size, ((s[0]'h).toNat : Int) = 58 := fun h => (bt_at s 0 h).trans h3
  have hi0 : ((0 : Int) < s.size) = True := eq_true (by omega)
  have hd0 : (0 < s.size) = True := eq_true (by omega)
  have e1 := full_beq h0
  have e3 := full_empty h0
  have cn := fun w => digit_no 58 w (by omega)
  have cl := fun w => letter_any 58 w
  have ct := fun w => token_any s w hs h0
  have cb := fun w => bytes_any s w hs h0 h3
  have H0 := Lib.hid h0; clear h0
  clear h3
  go_enter Tryd.func9, Tryd.ntmps9
  go_wp2_with (first | (go_at_call 14; refine (cn _).mono ?_; rintro e w' ⟨rfl, ⟨nd0, rfl⟩⟩) | (go_at_call 17; refine (cl _).mono ?_; rintro e w' ⟨b, rfl, ⟨ndl, rfl⟩⟩) | (go_at_call 18; refine (ct _).mono ?_; rintro e w' ⟨n, hn, rfl, ⟨nd, rfl⟩⟩; have hq := eq_true hn; have hqi : ((n : Int) ≤ s.size) = True := eq_true (by omega); clear hn) | (go_at_call 19; refine (cb _).mono ?_; rintro e W ⟨n, v, b1, b2, m, hn, rfl, hby, hbe⟩; obtain ⟨q0, q1, q2, q3, qf, hbx⟩ := item_box rfl hbe; have HBX := Lib.hid hbx; clear hbx hbe; obtain ⟨t, ht, hcv⟩ := hby.text; have hcv0 := hcv 0; clear ht hby; have hq := eq_true hn; have hqi : ((n : Int) ≤ s.size) = True := eq_true (by omega); clear hn))
  · skip
    go_still_tail 7, (by kernel_rfl)
    rw [drawn_one]
    go_wp2
    refine bodyPost_ret (v := .tuple #[.agg #[.int .i64 4, .string (s.extract 0 n), .string (s.extract 0 n), .bool false], .bool true]) (by simp [results, Tryd.results9, go_sem]) rfl ⟨4, _, _, _, _, by decide, by decide, rfl, ?_⟩
    exact below_four (by repeat (first | exact (Below.refl _ _).alloc (Nat.le_refl _) _ | apply Below.drewN')) _ _ _ _
  · have hcv1 := hcv 1
    rw [show ∀ W : World, W.drewN 1 = W.drew from fun _ => rfl] at hcv1
    go_region
    all_goals
      go_wp2
      refine bodyPost_ret (v := .tuple #[.agg #[.int .i64 5, .string (s.extract 0 n), .string t, .bool b2], .bool b1]) (by simp [results, Tryd.results9, go_sem, q0, q1, q2, q3]) rfl ⟨5, _, _, _, _, by decide, by decide, rfl, ?_⟩
      (repeat (first | apply Below.drewN' | apply Below.drew)); exact below_four (by repeat (first | exact HBX.out | apply Below.drewN' | apply Below.drew)) _ _ _ _ 

set_option maxHeartbeats 4000000 in
set_option maxRecDepth 100000 in
theorem item_display (s : ByteArray) (w : World) (hs : s.size ≤ 2147483647) (h0 : 0 < s.size) (h3 : bt s 0 = 37) : Calls Tryd.prog 9 #[.string s] w (SomeItem w) := by
  have hx0 : ∀ h : 0 < s.size, ((s[0]'h).toNat : Int) = 37 := fun h => (bt_at s 0 h).trans h3
  have hi0 : ((0 : Int) < s.size) = True := eq_true (by omega)
  have hd0 : (0 < s.size) = True := eq_true (by omega)
  have e1 := full_beq h0
  have e3 := full_empty h0
  have cn := fun w => digit_no 37 w (by omega)
  have cl := fun w => letter_any 37 w
  have ct := fun w => token_any s w hs h0
  have cb := fun w => display_any s w hs h0 h3
  have H0 := Lib.hid h0; clear h0
  clear h3
  go_enter Tryd.func9, Tryd.ntmps9
  go_wp2_with (first | (go_at_call 14; refine (cn _).mono ?_; rintro e w' ⟨rfl, ⟨nd0, rfl⟩⟩) | (go_at_call 17; refine (cl _).mono ?_; rintro e w' ⟨b, rfl, ⟨ndl, rfl⟩⟩) | (go_at_call 18; refine (ct _).mono ?_; rintro e w' ⟨n, hn, rfl, ⟨nd, rfl⟩⟩; have hq := eq_true hn; have hqi : ((n : Int) ≤ s.size) = True := eq_true (by omega); clear hn) | (go_at_call 20; refine (cb _).mono ?_; rintro e W ⟨n, v, b1, hn, hv, rfl, hbe⟩; obtain ⟨q0, q1, q2, q3, qf, hbx⟩ := item_box rfl hbe; have HBX := Lib.hid hbx; clear hbx hbe; have ch := fun w => has_any v ⟨#[239, 191, 189]⟩ w (by omega) (by decide) (by decide); have hq := eq_true hn; have hqi : ((n : Int) ≤ s.size) = True := eq_true (by omega); clear hn hv))
  · skip
    go_still_tail 7, (by kernel_rfl)
    rw [drawn_one]
    go_wp2
    refine bodyPost_ret (v := .tuple #[.agg #[.int .i64 4, .string (s.extract 0 n), .string (s.extract 0 n), .bool false], .bool true]) (by simp [results, Tryd.results9, go_sem]) rfl ⟨4, _, _, _, _, by decide, by decide, rfl, ?_⟩
    exact below_four (by repeat (first | exact (Below.refl _ _).alloc (Nat.le_refl _) _ | apply Below.drewN')) _ _ _ _
  · go_region_with (go_at_call 21; refine (ch _).mono ?_; rintro e w' ⟨b2, rfl, ⟨nd1, rfl⟩⟩)
    all_goals
      go_wp2
      refine bodyPost_ret (v := .tuple #[.agg #[.int .i64 8, .string (s.extract 0 n), .string v, .bool b2], .bool b1]) (by simp [results, Tryd.results9, go_sem, q0, q1, q2, q3]) rfl ⟨8, _, _, _, _, by decide, by decide, rfl, ?_⟩
      (repeat (first | apply Below.drewN' | apply Below.drew)); exact below_four (by repeat (first | exact HBX.out | apply Below.drewN' | apply Below.drew)) _ _ _ _

set_option maxHeartbeats 4000000 in
set_option maxRecDepth 100000 in
theorem item_date (s : ByteArray) (w : World) (hs : s.size ≤ 2147483647) (h0 : 0 < s.size) (h3 : bt s 0 = 64) : Calls Tryd.prog 9 #[.string s] w (SomeItem w) := by
  have hx0 : ∀ h : 0 < s.size, ((s[0]'h).toNat : Int) = 64 := fun h => (bt_at s 0 h).trans h3
  have hi0 : ((0 : Int) < s.size) = True := eq_true (by omega)
  have hd0 : (0 < s.size) = True := eq_true (by omega)
  have e1 := full_beq h0
  have e3 := full_empty h0
  have cn := fun w => digit_no 64 w (by omega)
  have cl := fun w => letter_any 64 w
  have ct := fun w => token_any s w hs h0
  obtain ⟨r1, r2, r3, hr1, cb⟩ := number_all (s.extract 1 s.size) (by simp; omega)
  have hr1b : r1.size ≤ 2147483647 := by simp at hr1; omega
  have q1s : ((1 : Int) ≤ s.size) = True := eq_true (by omega)
  have q1n : (1 ≤ s.size) = True := eq_true (by omega)
  clear hr1
  have H0 := Lib.hid h0; clear h0
  clear h3
  go_enter Tryd.func9, Tryd.ntmps9
  go_wp2_with (first | (go_at_call 14; refine (cn _).mono ?_; rintro e w' ⟨rfl, ⟨nd0, rfl⟩⟩) | (go_at_call 17; refine (cl _).mono ?_; rintro e w' ⟨b, rfl, ⟨ndl, rfl⟩⟩) | (go_at_call 18; refine (ct _).mono ?_; rintro e w' ⟨n, hn, rfl, ⟨nd, rfl⟩⟩; have hq := eq_true hn; have hqi : ((n : Int) ≤ s.size) = True := eq_true (by omega); clear hn) | (go_at_call 15; refine (cb _).mono ?_; rintro e w' ⟨rfl, ⟨ndn, rfl⟩⟩))
  · skip
    go_still_tail 7, (by kernel_rfl)
    rw [drawn_one]
    go_wp2
    refine bodyPost_ret (v := .tuple #[.agg #[.int .i64 4, .string (s.extract 0 n), .string (s.extract 0 n), .bool false], .bool true]) (by simp [results, Tryd.results9, go_sem]) rfl ⟨4, _, _, _, _, by decide, by decide, rfl, ?_⟩
    exact below_four (by repeat (first | exact (Below.refl _ _).alloc (Nat.le_refl _) _ | apply Below.drewN')) _ _ _ _
  · skip
    refine bodyPost_ret (v := .tuple #[.agg #[.int .i64 7, .string (⟨#[64]⟩ ++ r1), .string ⟨#[]⟩, .bool false], .bool (!r2)]) (by simp [results, Tryd.results9, go_sem]) rfl ⟨7, _, _, _, _, by decide, by decide, rfl, ?_⟩
    exact below_four (by repeat (first | exact (Below.refl _ _).alloc (Nat.le_refl _) _ | apply Below.drewN')) _ _ _ _
  · skip
    refine bodyPost_ret (v := .tuple #[.agg #[.int .i64 7, .string (⟨#[64]⟩ ++ r1), .string ⟨#[]⟩, .bool false], .bool false]) (by simp [results, Tryd.results9, go_sem]) rfl ⟨7, _, _, _, _, by decide, by decide, rfl, ?_⟩
    exact below_four (by repeat (first | exact (Below.refl _ _).alloc (Nat.le_refl _) _ | apply Below.drewN')) _ _ _ _

set_option maxHeartbeats 4000000 in
set_option maxRecDepth 100000 in
theorem item_bool (s : ByteArray) (w : World) (hs : s.size ≤ 2147483647) (h0 : 0 < s.size) (h3 : bt s 0 = 63) : Calls Tryd.prog 9 #[.string s] w (SomeItem w) := by
  have hx0 : ∀ h : 0 < s.size, ((s[0]'h).toNat : Int) = 63 := fun h => (bt_at s 0 h).trans h3
  have hi0 : ((0 : Int) < s.size) = True := eq_true (by omega)
  have hd0 : (0 < s.size) = True := eq_true (by omega)
  have e1 := full_beq h0
  have e3 := full_empty h0
  have cn := fun w => digit_no 63 w (by omega)
  have cl := fun w => letter_any 63 w
  have ct := fun w => token_any s w hs h0
  clear h3
  by_cases h2 : s.size < 2
  · have d2 : decide ((s.size : Int) < 2) = true := decide_eq_true (by omega)
    clear h2 h0
    go_enter Tryd.func9, Tryd.ntmps9
    go_wp2_with (first | (go_at_call 14; refine (cn _).mono ?_; rintro e w' ⟨rfl, ⟨nd0, rfl⟩⟩) | (go_at_call 17; refine (cl _).mono ?_; rintro e w' ⟨b, rfl, ⟨ndl, rfl⟩⟩) | (go_at_call 18; refine (ct _).mono ?_; rintro e w' ⟨n, hn, rfl, ⟨nd, rfl⟩⟩; have hq := eq_true hn; have hqi : ((n : Int) ≤ s.size) = True := eq_true (by omega); clear hn))
    · skip
      go_still_tail 7, (by kernel_rfl)
      rw [drawn_one]
      go_wp2
      refine bodyPost_ret (v := .tuple #[.agg #[.int .i64 4, .string (s.extract 0 n), .string (s.extract 0 n), .bool false], .bool true]) (by simp [results, Tryd.results9, go_sem]) rfl ⟨4, _, _, _, _, by decide, by decide, rfl, ?_⟩
      exact below_four (by repeat (first | exact (Below.refl _ _).alloc (Nat.le_refl _) _ | apply Below.drewN')) _ _ _ _
    · skip
      refine bodyPost_ret (v := .tuple #[.agg #[.int .i64 0, .string ⟨#[]⟩, .string ⟨#[]⟩, .bool false], .bool false]) (by simp [results, Tryd.results9, go_sem]) rfl ⟨0, _, _, _, _, by decide, by decide, rfl, ?_⟩
      exact below_four (by repeat (first | exact (Below.refl _ _).alloc (Nat.le_refl _) _ | apply Below.drewN')) _ _ _ _
  · have d2 : decide ((s.size : Int) < 2) = false := decide_eq_false (by omega)
    have q2i : ((2 : Int) ≤ s.size) = True := eq_true (by omega)
    have q2n : (2 ≤ s.size) = True := eq_true (by omega)
    have hi1 : ((1 : Int) < s.size) = True := eq_true (by omega)
    have hd1 : (1 < s.size) = True := eq_true (by omega)
    have hx1 : ∀ h : 1 < s.size, ((s[1]'h).toNat : Int) = bt s 1 := bt_at s 1
    obtain ⟨d, hd⟩ : ∃ d, bt s 1 = d := ⟨_, rfl⟩
    rw [hd] at hx1
    clear h2 h0 hd
    by_cases h48 : d = 48
    · have m48 : (d != 48) = false := bne_eq_false_iff_eq.mpr h48
      clear h48
      go_enter Tryd.func9, Tryd.ntmps9
      go_wp2_with (first | (go_at_call 14; refine (cn _).mono ?_; rintro e w' ⟨rfl, ⟨nd0, rfl⟩⟩) | (go_at_call 17; refine (cl _).mono ?_; rintro e w' ⟨b, rfl, ⟨ndl, rfl⟩⟩) | (go_at_call 18; refine (ct _).mono ?_; rintro e w' ⟨n, hn, rfl, ⟨nd, rfl⟩⟩; have hq := eq_true hn; have hqi : ((n : Int) ≤ s.size) = True := eq_true (by omega); clear hn))
      · skip
        go_still_tail 7, (by kernel_rfl)
        rw [drawn_one]
        go_wp2
        refine bodyPost_ret (v := .tuple #[.agg #[.int .i64 4, .string (s.extract 0 n), .string (s.extract 0 n), .bool false], .bool true]) (by simp [results, Tryd.results9, go_sem]) rfl ⟨4, _, _, _, _, by decide, by decide, rfl, ?_⟩
        exact below_four (by repeat (first | exact (Below.refl _ _).alloc (Nat.le_refl _) _ | apply Below.drewN')) _ _ _ _
      · skip
        refine bodyPost_ret (v := .tuple #[.agg #[.int .i64 6, .string (s.extract 0 2), .string ⟨#[]⟩, .bool false], .bool true]) (by simp [results, Tryd.results9, go_sem]) rfl ⟨6, _, _, _, _, by decide, by decide, rfl, ?_⟩
        exact below_four (by repeat (first | exact (Below.refl _ _).alloc (Nat.le_refl _) _ | apply Below.drewN')) _ _ _ _
    · have m48 : (d != 48) = true := bne_iff_ne.mpr h48
      clear h48
      by_cases h49 : d = 49
      · have m49 : (d != 49) = false := bne_eq_false_iff_eq.mpr h49
        clear h49
        go_enter Tryd.func9, Tryd.ntmps9
        go_wp2_with (first | (go_at_call 14; refine (cn _).mono ?_; rintro e w' ⟨rfl, ⟨nd0, rfl⟩⟩) | (go_at_call 17; refine (cl _).mono ?_; rintro e w' ⟨b, rfl, ⟨ndl, rfl⟩⟩) | (go_at_call 18; refine (ct _).mono ?_; rintro e w' ⟨n, hn, rfl, ⟨nd, rfl⟩⟩; have hq := eq_true hn; have hqi : ((n : Int) ≤ s.size) = True := eq_true (by omega); clear hn))
        · skip
          go_still_tail 7, (by kernel_rfl)
          rw [drawn_one]
          go_wp2
          refine bodyPost_ret (v := .tuple #[.agg #[.int .i64 4, .string (s.extract 0 n), .string (s.extract 0 n), .bool false], .bool true]) (by simp [results, Tryd.results9, go_sem]) rfl ⟨4, _, _, _, _, by decide, by decide, rfl, ?_⟩
          exact below_four (by repeat (first | exact (Below.refl _ _).alloc (Nat.le_refl _) _ | apply Below.drewN')) _ _ _ _
        · skip
          refine bodyPost_ret (v := .tuple #[.agg #[.int .i64 6, .string (s.extract 0 2), .string ⟨#[]⟩, .bool false], .bool true]) (by simp [results, Tryd.results9, go_sem]) rfl ⟨6, _, _, _, _, by decide, by decide, rfl, ?_⟩
          exact below_four (by repeat (first | exact (Below.refl _ _).alloc (Nat.le_refl _) _ | apply Below.drewN')) _ _ _ _
      · have m49 : (d != 49) = true := bne_iff_ne.mpr h49
        clear h49
        go_enter Tryd.func9, Tryd.ntmps9
        go_wp2_with (first | (go_at_call 14; refine (cn _).mono ?_; rintro e w' ⟨rfl, ⟨nd0, rfl⟩⟩) | (go_at_call 17; refine (cl _).mono ?_; rintro e w' ⟨b, rfl, ⟨ndl, rfl⟩⟩) | (go_at_call 18; refine (ct _).mono ?_; rintro e w' ⟨n, hn, rfl, ⟨nd, rfl⟩⟩; have hq := eq_true hn; have hqi : ((n : Int) ≤ s.size) = True := eq_true (by omega); clear hn))
        · skip
          go_still_tail 7, (by kernel_rfl)
          rw [drawn_one]
          go_wp2
          refine bodyPost_ret (v := .tuple #[.agg #[.int .i64 4, .string (s.extract 0 n), .string (s.extract 0 n), .bool false], .bool true]) (by simp [results, Tryd.results9, go_sem]) rfl ⟨4, _, _, _, _, by decide, by decide, rfl, ?_⟩
          exact below_four (by repeat (first | exact (Below.refl _ _).alloc (Nat.le_refl _) _ | apply Below.drewN')) _ _ _ _
        · skip
          refine bodyPost_ret (v := .tuple #[.agg #[.int .i64 0, .string ⟨#[]⟩, .string ⟨#[]⟩, .bool false], .bool false]) (by simp [results, Tryd.results9, go_sem]) rfl ⟨0, _, _, _, _, by decide, by decide, rfl, ?_⟩
          exact below_four (by repeat (first | exact (Below.refl _ _).alloc (Nat.le_refl _) _ | apply Below.drewN')) _ _ _ _

set_option maxHeartbeats 4000000 in
set_option maxRecDepth 100000 in
theorem item_other (s : ByteArray) (w : World) (hs : s.size ≤ 2147483647) (h0 : 0 < s.size) (c : Int) (h3 : bt s 0 = c) (hd : c < 48 ∨ 57 < c) (h45 : c ≠ 45) (h34 : c ≠ 34) (h42 : c ≠ 42) (h58 : c ≠ 58) (h63 : c ≠ 63) (h64 : c ≠ 64) (h37 : c ≠ 37) : Calls Tryd.prog 9 #[.string s] w (SomeItem w) := by
  have hx0 : ∀ h : 0 < s.size, ((s[0]'h).toNat : Int) = c := fun h => (bt_at s 0 h).trans h3
  have hi0 : ((0 : Int) < s.size) = True := eq_true (by omega)
  have hd0 : (0 < s.size) = True := eq_true (by omega)
  have e1 := full_beq h0
  have e3 := full_empty h0
  have cn := fun w => digit_no c w hd
  have cl := fun w => letter_any c w
  have ct := fun w => token_any s w hs h0
  have t45 : (c == 45) = false := beq_eq_false_iff_ne.mpr h45
  have t34 : (c == 34) = false := beq_eq_false_iff_ne.mpr h34
  have t42 : (c == 42) = false := beq_eq_false_iff_ne.mpr h42
  have t58 : (c == 58) = false := beq_eq_false_iff_ne.mpr h58
  have t63 : (c == 63) = false := beq_eq_false_iff_ne.mpr h63
  have t64 : (c == 64) = false := beq_eq_false_iff_ne.mpr h64
  have t37 : (c == 37) = false := beq_eq_false_iff_ne.mpr h37
  clear hd h45 h34 h42 h58 h63 h64 h37
  have H0 := Lib.hid h0; clear h0
  clear h3
  go_enter Tryd.func9, Tryd.ntmps9
  go_wp2_with (first | (go_at_call 14; refine (cn _).mono ?_; rintro e w' ⟨rfl, ⟨nd0, rfl⟩⟩) | (go_at_call 17; refine (cl _).mono ?_; rintro e w' ⟨b, rfl, ⟨ndl, rfl⟩⟩) | (go_at_call 18; refine (ct _).mono ?_; rintro e w' ⟨n, hn, rfl, ⟨nd, rfl⟩⟩; have hq := eq_true hn; have hqi : ((n : Int) ≤ s.size) = True := eq_true (by omega); clear hn) )
  · skip
    go_still_tail 7, (by kernel_rfl)
    rw [drawn_one]
    go_wp2
    refine bodyPost_ret (v := .tuple #[.agg #[.int .i64 4, .string (s.extract 0 n), .string (s.extract 0 n), .bool false], .bool true]) (by simp [results, Tryd.results9, go_sem]) rfl ⟨4, _, _, _, _, by decide, by decide, rfl, ?_⟩
    exact below_four (by repeat (first | exact (Below.refl _ _).alloc (Nat.le_refl _) _ | apply Below.drewN')) _ _ _ _
  · skip
    refine bodyPost_ret (v := .tuple #[.agg #[.int .i64 0, .string ⟨#[]⟩, .string ⟨#[]⟩, .bool false], .bool false]) (by simp [results, Tryd.results9, go_sem]) rfl ⟨0, _, _, _, _, by decide, by decide, rfl, ?_⟩
    exact below_four (by repeat (first | exact (Below.refl _ _).alloc (Nat.le_refl _) _ | apply Below.drewN')) _ _ _ _

theorem item_rest (s : ByteArray) (w : World) (hs : s.size ≤ 2147483647) (h0 : 0 < s.size) (h1 : bt s 0 ≠ 45) (h2 : bt s 0 < 48 ∨ 57 < bt s 0) : Calls Tryd.prog 9 #[.string s] w (SomeItem w) := by
  by_cases h34 : bt s 0 = 34
  · exact item_quoted s w hs h0 h34
  by_cases h42 : bt s 0 = 42
  · exact item_star s w hs h0 h42
  by_cases h58 : bt s 0 = 58
  · exact item_bytes s w hs h0 h58
  by_cases h63 : bt s 0 = 63
  · exact item_bool s w hs h0 h63
  by_cases h64 : bt s 0 = 64
  · exact item_date s w hs h0 h64
  by_cases h37 : bt s 0 = 37
  · exact item_display s w hs h0 h37
  exact item_other s w hs h0 _ rfl h2 h1 h34 h42 h58 h63 h64 h37

end Go.Proofs.YtjalihaidhkofaaDoor.Hand
