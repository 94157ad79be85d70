/- The walks of FnDecimal: at every text it answers true, in every world that holds the tables. -/
import Derived.Test.YtjalihaidhkofaaDoorDeci
import Derived.Test.YtjalihaidhkofaaDoorOnly
import Derived.Test.YtjalihaidhkofaaDoorEnds
import Derived.Deep.QuietTactic
import Derived.BigQuiet
namespace Go.Proofs.YtjalihaidhkofaaDoor.Hand
open Go.RowKit
open Go.Proofs.YtjalihaidhkofaaDoor

theorem quiet_add {P : Program} {f : FuncId} {args : Array Value} {w : World} {a n : Nat} {v : Value}
    (h : Calls P f args (w.drewN (a + n)) fun e w' => e = .returned v ∧ Drawn0 (w.drewN (a + n)) w') :
    Calls P f args (w.drewN (a + n)) fun e w'' => e = .returned v ∧ ∃ m, w'' = w.drewN (a + m) :=
  h.mono fun _ _ ⟨he, m, hm⟩ => ⟨he, n + m, by rw [hm, World.drewN_drewN, Nat.add_assoc]⟩

theorem two_below {w W W2 : World} {o : Obj} (h1 : Below w.heap.size w W) (h2 : Below (W.alloc o).heap.size (W.alloc o) W2) : ∀ o', Below w.heap.size w (W2.alloc o') := by
  have hz : (W.alloc o).heap.size = W.heap.size + 1 := by show (W.heap.push _).size = _; simp
  have hs1 := h1.size
  have hs2 := h2.size
  exact fun o' => ((h1.alloc (by omega) o).trans (h2.mono (by omega))).alloc (by omega) o'

theorem Tabs.alloc {w : World} (T : Tabs w) (o : Obj) : Tabs (w.alloc o) := by
  obtain ⟨b, f, c, t1, t2⟩ := T.tens
  have hk : ∀ {a : Addr} {u : Value}, w.cell? a = some u → (w.alloc o).cell? a = some u := fun {a u} h => (World.cell?_alloc_lt w (h := World.block_lt_of_cell? w a h) o).trans h
  exact ⟨hk T.opt, hk T.info, b, f, c, hk t1, fun k k1 k3 => hk (t2 k k1 k3)⟩

theorem Tabs.below {w W : World} (T : Tabs w) (h : Below w.heap.size w W) : Tabs W := by
  obtain ⟨b, f, c, t1, t2⟩ := T.tens
  have hk : ∀ {a : Addr} {u : Value}, w.cell? a = some u → W.cell? a = some u := fun {a u} e => (h.cell (p := a) (World.block_lt_of_cell? w a e)).trans e
  exact ⟨hk T.opt, hk T.info, b, f, c, hk t1, fun k k1 k3 => hk (t2 k k1 k3)⟩

/-- What holds behind the second Only: the first box stands; the tables too. -/
theorem two_boxes {w W W2 : World} {o : Obj} (T : Tabs w) (h1 : Below w.heap.size w W) (h2 : Below (W.alloc o).heap.size (W.alloc o) W2) :
    (∀ o', Tabs (W2.alloc o')) ∧ (∀ o' a, a.block = W.heap.size → (W2.alloc o').cell? a = (W.alloc o).cell? a) ∧ (∀ o', Below w.heap.size w (W2.alloc o')) := by
  have hz : (W.alloc o).heap.size = W.heap.size + 1 := by show (W.heap.push _).size = _; simp
  have T1 : Tabs W := T.below h1
  have T2 : Tabs W2 := (T1.alloc o).below h2
  have hs1 := h1.size
  have hs2 := h2.size
  have hb1 := h1
  refine ⟨fun o' => T2.alloc o', fun o' a ha => ?_, fun o' => ?_⟩
  · rw [World.cell?_alloc_lt _ (h := by omega), h2.cell (by omega)]
  · exact ((hb1.alloc (by omega) o).trans (h2.mono (by omega))).alloc (by omega) o'

set_option maxHeartbeats 1000000 in
set_option maxRecDepth 100000 in
theorem fn_yes (s : ByteArray) (w : World) (hs : s.size ≤ 2147483647) (T : Tabs w) (r q : Nat) (th : Int)
   (c1 : ∀ w, Calls Tryd.prog 4 #[.string s, .int .i64 2] w (OnlyP (fun _ text told => s = text ∧ (told = 2 ∨ told = 1)) w))
   (c2 : ∀ w, Calls Tryd.prog 4 #[.string s, .int .i64 1] w (OnlyP (fun _ _ told => told = 2 ∨ told = 0) w))
   (c6 : ∀ w, Tabs w → Calls Tryd.prog 6 #[.string s] w fun e w' => e = .returned (.tuple #[.int .u64 r, .bool true]) ∧ Drawn0 w w')
   (c8 : ∀ w, Calls Tryd.prog 8 #[.string s] w fun e w' => e = .returned (.int .i64 th) ∧ Drawn0 w w')
   (hq : floatBits .quo .f64 (floatOfInt .f64 th) 4652007308841189376 = some q) (ho : Ieee.double.order r q = some .eq) :
    Calls Tryd.prog 3 #[.string s] w fun e w' => e = .returned (.bool true) ∧ Below w.heap.size w w' := by
  have hl : decide (2147483647 < (s.size : Int)) = false := decide_eq_false (by omega)
  have cw := fun w => works_true w
  have r7 := run7 r
  have ho' : (FloatKind.f64.format.order r q == some .eq) = true := by rw [show FloatKind.f64.format.order r q = some .eq from ho]; rfl
  have hrun := fun w => run_float_arith (P := Tryd.prog) w .quo 30 .f64 _ _ _ hq
  go_enter Tryd.func3, Tryd.ntmps3
  go_wp2_with (first
    | (go_at_call 4; (with_reducible refine (c1 _).mono ?_); rintro e W ⟨kind, text, value, odd, told, ⟨rfl, htold⟩, rfl, hbe⟩; have HBE := Lib.hid hbe; clear hbe; rcases htold with rfl | rfl)
    | (go_at_call 4; (with_reducible refine (c2 _).mono ?_); rintro e W2 ⟨kind2, text2, value2, odd2, told2, htold2, rfl, hbe2⟩; obtain ⟨hT, hcell, hbel⟩ := two_boxes T HBE.out hbe2; have hcl : ∀ o', (W2.alloc o').cell? ⟨W.heap.size, 1, none⟩ = some (.string s) := fun o' => (hcell o' _ rfl).trans (by rw [World.cell?_alloc_at _ _ _ _ rfl]; rfl); have hcl2 : ∀ o' n, ((W2.alloc o').drewN n).cell? ⟨W.heap.size, 1, none⟩ = some (.string s) := fun o' _ => hcl o'; clear hcell; have HT := Lib.hid hT; have HBL := Lib.hid hbel; clear hT hbel hbe2; rcases htold2 with rfl | rfl)
    | (go_at_call 5; (with_reducible refine (cw _).mono ?_); rintro e w' ⟨rfl, ⟨nd, rfl⟩⟩)
    | (go_at_call 6; (with_reducible refine (c6 _ (HT.out _)).mono ?_); rintro e w' ⟨rfl, ⟨nd, rfl⟩⟩))
  all_goals first
    | (go_ret; exact ⟨rfl, by repeat (first | exact HBL.out _ | apply Below.drewN')⟩)
    | skip
  go_quiet (first
    | (go_at_call 5; exact quiet_add (cw _))
    | (go_at_call 8; exact quiet_add (c8 _)))
  go_wp2
  go_ret
  exact ⟨rfl, by repeat (first | exact HBL.out _ | apply Below.drewN')⟩

set_option maxHeartbeats 1000000 in
set_option maxRecDepth 100000 in
/-- The law at a text that is no decimal and no integer. -/
theorem fn_no (s : ByteArray) (w : World) (hs : s.size ≤ 2147483647)
   (c1 : ∀ w, Calls Tryd.prog 4 #[.string s, .int .i64 2] w (OnlyP (fun _ _ told => told = 2 ∨ told = 0) w))
   (c2 : ∀ w, Calls Tryd.prog 4 #[.string s, .int .i64 1] w (OnlyP (fun _ _ told => told = 2 ∨ told = 0) w))
   (c6 : ∀ w, Calls Tryd.prog 6 #[.string s] w fun e w' => e = .returned (.tuple #[.int .u64 0, .bool false]) ∧ Drawn0 w w') :
    Calls Tryd.prog 3 #[.string s] w fun e w' => e = .returned (.bool true) ∧ Below w.heap.size w w' := by
  have hl : decide (2147483647 < (s.size : Int)) = false := decide_eq_false (by omega)
  have cw := fun w => works_true w
  go_enter Tryd.func3, Tryd.ntmps3
  go_wp2_with (first
    | (go_at_call 4; (with_reducible refine (c1 _).mono ?_); rintro e W ⟨kind, text, value, odd, told, htold, rfl, hbe⟩; have HBE := Lib.hid hbe; clear hbe; rcases htold with rfl | rfl)
    | (go_at_call 4; (with_reducible refine (c2 _).mono ?_); rintro e W2 ⟨kind2, text2, value2, odd2, told2, htold2, rfl, hbe2⟩; have hbel := two_below HBE.out hbe2; have HBL := Lib.hid hbel; clear hbel hbe2; rcases htold2 with rfl | rfl)
    | (go_at_call 5; (with_reducible refine (cw _).mono ?_); rintro e w' ⟨rfl, ⟨nd, rfl⟩⟩)
    | (go_at_call 6; (with_reducible refine (c6 _).mono ?_); rintro e w' ⟨rfl, ⟨nd, rfl⟩⟩))
  all_goals first
    | (go_ret; exact ⟨rfl, by repeat (first | exact HBL.out _ | apply Below.drewN')⟩)
    | skip
  go_quiet (first
    | (go_at_call 5; exact quiet_add (cw _)))
  go_wp2
  go_ret
  exact ⟨rfl, by repeat (first | exact HBL.out _ | apply Below.drewN')⟩

set_option maxHeartbeats 1000000 in
set_option maxRecDepth 100000 in
/-- The law at an integer: it says no more than works. -/
theorem fn_int (s : ByteArray) (w : World) (hs : s.size ≤ 2147483647)
   (c1 : ∀ w, Calls Tryd.prog 4 #[.string s, .int .i64 2] w (OnlyP (fun _ _ told => told = 2 ∨ told = 0) w))
   (c2 : ∀ w, Calls Tryd.prog 4 #[.string s, .int .i64 1] w (OnlyP (fun _ _ told => told = 2 ∨ told = 1) w)) :
    Calls Tryd.prog 3 #[.string s] w fun e w' => e = .returned (.bool true) ∧ Below w.heap.size w w' := by
  have hl : decide (2147483647 < (s.size : Int)) = false := decide_eq_false (by omega)
  have cw := fun w => works_true w
  go_enter Tryd.func3, Tryd.ntmps3
  go_wp2_with (first
    | (go_at_call 4; (with_reducible refine (c1 _).mono ?_); rintro e W ⟨kind, text, value, odd, told, htold, rfl, hbe⟩; have HBE := Lib.hid hbe; clear hbe; rcases htold with rfl | rfl)
    | (go_at_call 4; (with_reducible refine (c2 _).mono ?_); rintro e W2 ⟨kind2, text2, value2, odd2, told2, htold2, rfl, hbe2⟩; have hbel := two_below HBE.out hbe2; have HBL := Lib.hid hbel; clear hbel hbe2; rcases htold2 with rfl | rfl)
    | (go_at_call 5; (with_reducible refine (cw _).mono ?_); rintro e w' ⟨rfl, ⟨nd, rfl⟩⟩))
  all_goals (go_ret; exact ⟨rfl, by repeat (first | exact HBL.out _ | apply Below.drewN')⟩)

set_option maxRecDepth 100000 in
/-- The law at a text that is too long. -/
theorem fn_long (s : ByteArray) (w : World) (hs : 2147483647 < s.size) :
    Calls Tryd.prog 3 #[.string s] w fun e w' => e = .returned (.bool true) ∧ Below w.heap.size w w' := by
  have hl : decide (2147483647 < (s.size : Int)) = true := decide_eq_true (by omega)
  go_enter Tryd.func3, Tryd.ntmps3
  go_wp2
  go_ret
  exact ⟨rfl, by repeat (first | exact Below.refl _ _ | apply Below.drewN')⟩

theorem OnlyP.weaken {Q Q' : Int → ByteArray → Int → Prop} {w : World} {K : Int} {s : ByteArray} (h : ∀ a b c, Q a b c → Q' a b c) (c : Calls Tryd.prog 4 #[.string s, .int .i64 K] w (OnlyP Q w)) :
    Calls Tryd.prog 4 #[.string s, .int .i64 K] w (OnlyP Q' w) :=
  c.mono fun _ _ ⟨a, b, v, o, t, hq, he, hb⟩ => ⟨a, b, v, o, t, h _ _ _ hq, he, hb⟩

/-- The law at a text that begins as a number does, its digits known. -/
theorem fn_num (s : ByteArray) (o j k : Nat) (w : World) (T : Tabs w) (hs : s.size ≤ 2147483647) (h0 : 0 < s.size) (ho : o ≤ 1) (hm : o = 1 → bt s 0 = 45) (hb : bt s 0 = 45 ∨ (48 ≤ bt s 0 ∧ bt s 0 ≤ 57)) (hoj : o < j) (r1 : Run s o j) (r2 : j < s.size → Run s (j + 1) k)
    (cn : ∀ w, Calls Tryd.prog 23 #[.string s] w fun e w' => e = .returned (.tuple #[.string (outC s o j k).1, .string (outC s o j k).2.1, .bool (outC s o j k).2.2]) ∧ Drawn0 w w')
    (c15 : ∀ w, Calls Tryd.prog 15 #[.string s] w fun e w' => e = .returned (.tuple #[.string (outN s o j k).1, .bool (outN s o j k).2.1, .bool (outN s o j k).2.2]) ∧ Drawn0 w w') :
    Calls Tryd.prog 3 #[.string s] w fun e w' => e = .returned (.bool true) ∧ Below w.heap.size w w' := by
  have ci := fun w => item_num s w hs h0 hb _ _ _ c15
  rcases split_num s o j k hs ho hm hoj r1 r2 h0 cn with ⟨hd, hn⟩ | ⟨hn1, hn2, hn3⟩ | ⟨c6, hn⟩
  · have hx : s.extract 0 s.size = s := by simp
    rw [hx] at hn
    rw [hn] at ci
    obtain ⟨r, q, hq, hor, c6⟩ := deci_yes hd
    refine fn_yes s w hs T r q (thou s o j) (fun w => ?_) (fun w => ?_) c6 (fun w => thousandths s o j w hd _ rfl) hq hor
    · exact OnlyP.weaken (fun _ _ _ h => ⟨h.2.1.symm, h.2.2⟩) (only_fine s s 2 2 w hs h0 rfl rfl ci)
    · exact OnlyP.weaken (fun _ _ _ h => h.2.2) (only_kind s s 2 1 w hs h0 (by decide) ci)
  · rw [hn1, hn2] at ci
    refine fn_int s w hs (fun w => ?_) (fun w => ?_)
    · exact OnlyP.weaken (fun _ _ _ h => h.2.2) (only_kind s _ 1 2 w hs h0 (by decide) ci)
    · exact OnlyP.weaken (fun _ _ _ h => h.2.2) (only_fine s _ 1 1 w hs h0 rfl hn3 ci)
  · have hall : ∀ K : Int, ∀ w, Calls Tryd.prog 4 #[.string s, .int .i64 K] w (OnlyP (fun _ _ told => told = 2 ∨ told = 0) w) := by
      intro K w
      generalize (outN s o j k).2.1 = d at ci
      generalize (outN s o j k).1 = t at ci hn
      generalize hok : (outN s o j k).2.2 = ok at ci hn
      cases ok
      · exact OnlyP.weaken (fun _ _ _ h => h.2.2) (only_bad s t _ K w hs h0 ci)
      · have ht : t.size < s.size := hn.resolve_left (by decide)
        by_cases hk : (if d = true then (2 : Int) else 1) = K
        · exact OnlyP.weaken (fun _ _ _ h => h.2.2) (only_short s t _ K w hs h0 hk ht ci)
        · exact OnlyP.weaken (fun _ _ _ h => h.2.2) (only_kind s t _ K w hs h0 hk ci)
    exact fn_no s w hs (hall 2) (hall 1) c6

/-- THE LAW AT EVERY TEXT, in every world that holds the tables. -/
theorem fn_all (s : ByteArray) (w : World) (T : Tabs w) : Calls Tryd.prog 3 #[.string s] w fun e w' => e = .returned (.bool true) ∧ Below w.heap.size w w' := by
  by_cases hs : s.size ≤ 2147483647
  · by_cases h0 : 0 < s.size
    · by_cases hm : bt s 0 = 45
      · obtain ⟨j, r1⟩ := run_exists s (s.size - 1) 1 h0 rfl
        have hjs := r1.size
        by_cases hj : 1 < j
        · obtain ⟨k, r2⟩ : ∃ k, j < s.size → Run s (j + 1) k := by
            by_cases hl : j < s.size
            · obtain ⟨k, hk⟩ := run_exists s (s.size - (j + 1)) (j + 1) hl rfl
              exact ⟨k, fun _ => hk⟩
            · exact ⟨0, fun h => absurd h hl⟩
          exact fn_num s 1 j k w T hs h0 (Nat.le_refl _) (fun _ => hm) (Or.inl hm) hj r1 r2 (fun w => consume_minus s j k w hs hm (by omega) r1 hj r2) (fun w => number_minus s j k w hs hm h0 r1 r2)
        · have hj1 : j = 1 := by have := r1.le; omega
          subst hj1
          have cnone : ∀ w, Calls Tryd.prog 23 #[.string s] w fun e w' => e = .returned (.tuple #[.string ⟨#[]⟩, .string s, .bool false]) ∧ Drawn0 w w' := by
            intro w
            refine consume_none s w hs ?_
            by_cases h1 : s.size = 1
            · exact Or.inr (Or.inr (Or.inl ⟨h1, hm⟩))
            · exact Or.inr (Or.inr (Or.inr ⟨by omega, hm, r1.stop (by omega)⟩))
          obtain ⟨k, r2⟩ : ∃ k, 1 < s.size → Run s (1 + 1) k := by
            by_cases hl : 1 < s.size
            · obtain ⟨k, hk⟩ := run_exists s (s.size - (1 + 1)) (1 + 1) hl rfl
              exact ⟨k, fun _ => hk⟩
            · exact ⟨0, fun h => absurd h hl⟩
          have c15 := fun w => number_minus s 1 k w hs hm h0 r1 r2
          have hout : outN s 1 1 k = (⟨#[]⟩, false, false) := outN_fail_int (fun h => Nat.lt_irrefl _ h.2) (Or.inl rfl)
          rw [hout] at c15
          have ci := fun w => item_num s w hs h0 (Or.inl hm) _ _ _ c15
          exact fn_no s w hs (fun w => OnlyP.weaken (fun _ _ _ h => h.2.2) (only_bad s _ _ 2 w hs h0 ci)) (fun w => OnlyP.weaken (fun _ _ _ h => h.2.2) (only_bad s _ _ 1 w hs h0 ci)) (fun w => deci_no s w _ _ _ (Or.inl rfl) (cnone w))
      · by_cases hd : 48 ≤ bt s 0 ∧ bt s 0 ≤ 57
        · obtain ⟨j, r1⟩ := run_exists s (s.size - 0) 0 (Nat.zero_le _) rfl
          have hj : 0 < j := by
            rcases Nat.eq_zero_or_pos j with e | e
            · subst e
              have := r1.stop h0
              have h : bt s 0 < 48 ∨ 57 < bt s 0 := this
              omega
            · exact e
          obtain ⟨k, r2⟩ : ∃ k, j < s.size → Run s (j + 1) k := by
            by_cases hl : j < s.size
            · obtain ⟨k, hk⟩ := run_exists s (s.size - (j + 1)) (j + 1) hl rfl
              exact ⟨k, fun _ => hk⟩
            · exact ⟨0, fun h => absurd h hl⟩
          exact fn_num s 0 j k w T hs h0 (Nat.zero_le _) (fun h => by omega) (Or.inr hd) hj r1 r2 (fun w => consume_plus s j k w hs r1 hj r2) (fun w => number_plus s j k w hs hm h0 r1 r2)
        · have h2 : bt s 0 < 48 ∨ 57 < bt s 0 := by omega
          exact fn_no s w hs (fun w => only_rest s 2 w hs h0 (Or.inr rfl) hm h2) (fun w => only_rest s 1 w hs h0 (Or.inl rfl) hm h2) (fun w => deci_no s w _ _ _ (Or.inl rfl) (consume_none s w hs (Or.inr (Or.inl ⟨h0, hm, h2⟩))))
    · have hz : s.size = 0 := by omega
      obtain rfl := ByteArray.size_eq_zero_iff.mp hz
      exact fn_no _ w hs (fun w => only_empty 2 (Or.inr rfl) w) (fun w => only_empty 1 (Or.inl rfl) w) (fun w => deci_no _ w _ _ _ (Or.inl rfl) (consume_none _ w hs (Or.inl hz)))
  · exact fn_long s w (by omega)
end Go.Proofs.YtjalihaidhkofaaDoor.Hand
