/- Totality walk of display. -/
import Derived.Test.YtjalihaidhkofaaDoorOwn
import Derived.Deep.RegionWith
namespace Go.Proofs.YtjalihaidhkofaaDoor.Hand
open Go.RowKit
open Go.Proofs.YtjalihaidhkofaaDoor

theorem wrap_succ (i : Nat) (h : i ≤ 2147483647) : IntKind.i64.wrap ((i : Int) + 1) = ((i + 1 : Nat) : Int) := by
  rw [IntWalk.i64_in _ (by omega)]; rfl

set_option maxHeartbeats 4000000 in
set_option maxRecDepth 100000 in
theorem display_any (s : ByteArray) (w : World) (hs : s.size ≤ 2147483647) (h0 : 0 < s.size) (hq : bt s 0 = 37) : Calls Tryd.prog 20 #[.string s] w (SomeText s.size w) := by
  have hx0 : ∀ h : 0 < s.size, ((s[0]'h).toNat : Int) = 37 := fun h => (bt_at s 0 h).trans hq
  have hi0 : ((0 : Int) < s.size) = True := eq_true (by omega)
  have hd0 : (0 < s.size) = True := eq_true (by omega)
  clear hq
  by_cases h2 : s.size < 2
  · have d2 : decide ((s.size : Int) < 2) = true := decide_eq_true (by omega)
    clear h2 h0
    go_enter Tryd.func20, Tryd.ntmps20
    go_wp2
    go_ret3
    exact ⟨0, ⟨#[]⟩, false, Nat.zero_le _, Nat.zero_le _, rfl, by repeat (first | exact Below.refl _ _ | apply Below.drewN')⟩
  · have d2 : decide ((s.size : Int) < 2) = false := decide_eq_false (by omega)
    have hi1 : ((1 : Int) < s.size) = True := eq_true (by omega)
    have hd1 : (1 < s.size) = True := eq_true (by omega)
    have hx1 : ∀ h : 1 < s.size, ((s[1]'h).toNat : Int) = bt s 1 := bt_at s 1
    have H2 := Lib.hid h2; clear h2 h0
    by_cases h34 : bt s 1 = 34
    · have hx1c : ∀ h : 1 < s.size, ((s[1]'h).toNat : Int) = 34 := fun h => (hx1 h).trans h34
      clear hx1 h34
      go_enter Tryd.func20, Tryd.ntmps20
      go_wp2
      go_loopg [2, 5] (s.size - 2) (fun gk v2 v5 W => RQ s w gk v2 v5 W)
      case atStart => exact ⟨2, 0, rfl, by have := H2.out; omega, rfl, by omega, Bytes.nil _ _, Below.refl _ _, Nat.le_refl _⟩
      case round =>
        clear hx0 hi0 hd0 hi1 hd1 hx1c d2
        obtain ⟨i, n, hg, hi, rfl, hn, hby, hbel, hwz⟩ := hrel
        have HG := Lib.hid hg; clear hg
        have HBY := Lib.hid hby; clear hby
        have HBE := Lib.hid hbel; clear hbel
        by_cases hlt : i < s.size
        · have hx : ∀ h : i < s.size, ((s[i]'h).toNat : Int) = bt s i := bt_at s i
          have qi : ((i : Int) < s.size) = True := eq_true (by omega)
          have q : (i < s.size) = True := eq_true hlt
          have HL := Lib.hid hlt; clear hlt
          obtain ⟨c, hc⟩ : ∃ c, bt s i = c := ⟨_, rfl⟩
          rw [hc] at hx
          have HC := Lib.hid hc; clear hc
          by_cases hlow : c < 32 ∨ 126 < c
          · rcases hlow with hl | hl
            · have d1 : decide (c < 32) = true := decide_eq_true hl
              clear hl
              go_wp2
              go_ret3
              exact ⟨0, ⟨#[]⟩, false, Nat.zero_le _, Nat.zero_le _, rfl, by repeat (first | exact HBE.out | apply Below.drewN')⟩
            · have d1 : decide (c < 32) = false := decide_eq_false (by omega)
              have d2 : decide (126 < c) = true := decide_eq_true hl
              clear hl
              go_wp2
              go_ret3
              exact ⟨0, ⟨#[]⟩, false, Nat.zero_le _, Nat.zero_le _, rfl, by repeat (first | exact HBE.out | apply Below.drewN')⟩
          · have d1 : decide (c < 32) = false := decide_eq_false (by omega)
            have d2 : decide (126 < c) = false := decide_eq_false (by omega)
            clear hlow
            by_cases h37 : c = 37
            · have t37 : (c == 37) = true := beq_iff_eq.mpr h37
              have H37 := Lib.hid h37; clear h37
              by_cases hend : i + 2 < s.size
              · have de : decide ((s.size : Int) ≤ (i : Int) + 2) = false := decide_eq_false (by omega)
                have hxa : ∀ h : i + 1 < s.size, ((s[i + 1]'h).toNat : Int) = bt s ((i + 1 : Nat) : Int) := bt_at s ((i + 1 : Nat) : Int)
                have hxb : ∀ h : i + 2 < s.size, ((s[i + 2]'h).toNat : Int) = bt s ((i + 2 : Nat) : Int) := bt_at s ((i + 2 : Nat) : Int)
                obtain ⟨ca, hca⟩ : ∃ d, bt s ((i + 1 : Nat) : Int) = d := ⟨_, rfl⟩
                obtain ⟨cb, hcb⟩ : ∃ d, bt s ((i + 2 : Nat) : Int) = d := ⟨_, rfl⟩
                rw [hca] at hxa
                rw [hcb] at hxb
                have HCA := Lib.hid hca; clear hca
                have HCB := Lib.hid hcb; clear hcb
                have qa : ((i : Int) + 1 < s.size) = True := eq_true (by omega)
                have qan : (i + 1 < s.size) = True := eq_true (by omega)
                have qb : ((i : Int) + 2 < s.size) = True := eq_true (by omega)
                have qbn : (i + 2 < s.size) = True := eq_true (by omega)
                have HEND := Lib.hid hend; clear hend
                have sa := fun w => small_any ca w
                have sb := fun w => small_any cb w
                go_wp2_with (first | (go_at_call 29; (with_reducible refine (sa _).mono ?_); rintro e w' ⟨x1, b1, rfl, ⟨nd1, rfl⟩⟩) | (go_at_call 29; (with_reducible refine (sb _).mono ?_); rintro e w' ⟨x2, b2, rfl, ⟨nd2, rfl⟩⟩) | (at_builtin; refine append_byte (HBY.out.drewN _) (Below.drewN' HBE.out _) rfl (.tmp 74) (.tmp 79) rfl rfl _ rfl ?_ ?_ ?_; (case _ => omega); (case _ => exact hwz); intro v' W' hby' hbel' hwz'; have HBY' := Lib.hid hby'; clear hby'; have HBE' := Lib.hid hbel'; clear hbel'))
                · go_ret3
                  exact ⟨0, ⟨#[]⟩, false, Nat.zero_le _, Nat.zero_le _, rfl, by repeat (first | exact HBE.out | apply Below.drewN')⟩
                · go_roundg (s.size - (i + 3))
                  case measure => have := HEND.out; have := HG.out; omega
                  case rel => exact ⟨i + 3, n + 1, rfl, by have := HEND.out; omega, by go_num, by omega, HBY'.out, HBE'.out, hwz'⟩
                · go_ret3
                  exact ⟨0, ⟨#[]⟩, false, Nat.zero_le _, Nat.zero_le _, rfl, by repeat (first | exact HBE.out | apply Below.drewN')⟩
              · have de : decide ((s.size : Int) ≤ (i : Int) + 2) = true := decide_eq_true (by omega)
                clear hend
                go_wp2
                go_ret3
                exact ⟨0, ⟨#[]⟩, false, Nat.zero_le _, Nat.zero_le _, rfl, by repeat (first | exact HBE.out | apply Below.drewN')⟩
            · have t37 : (c == 37) = false := beq_eq_false_iff_ne.mpr h37
              have H37 := Lib.hid h37; clear h37
              by_cases h34 : c = 34
              · have t34 : (c == 34) = true := beq_iff_eq.mpr h34
                have H34 := Lib.hid h34; clear h34
                obtain ⟨t, ht, hcv⟩ := HBY.out.text
                have c30 := fun w => valid_any t w (by omega)
                have htn : t.size ≤ s.size := by omega
                have hib : i ≤ 2147483647 := by omega
                have HT := Lib.hid htn; clear ht htn
                have hcv1 := hcv 1
                rw [show ∀ W : World, W.drewN 1 = W.drew from fun _ => rfl] at hcv1
                go_wp2
                go_region_with (go_at_call 30; refine (c30 _).mono ?_; rintro e w' ⟨b1, rfl, ⟨nd1, rfl⟩⟩)
                all_goals
                  try go_wp2
                  go_ret3
                  exact ⟨i + 1, t, b1, HL.out, HT.out, (by rw [← wrap_succ i hib]; rfl), by repeat (first | exact HBE.out | apply Below.drewN' | apply Below.drew)⟩
              · have t34 : (c == 34) = false := beq_eq_false_iff_ne.mpr h34
                have H34 := Lib.hid h34; clear h34
                go_wp2_with (first | (at_builtin; refine append_byte HBY.out HBE.out rfl (.tmp 33) (.tmp 35) rfl rfl c rfl ?_ ?_ ?_; (case _ => omega); (case _ => exact hwz); intro v' W' hby' hbel' hwz'; have HBY' := Lib.hid hby'; clear hby'; have HBE' := Lib.hid hbel'; clear hbel'))
                go_roundg (s.size - (i + 1))
                case measure => have := HL.out; have := HG.out; omega
                case rel => exact ⟨i + 1, n + 1, rfl, HL.out, by go_num, by omega, HBY'.out, HBE'.out, hwz'⟩
        · have qi : ((i : Int) < s.size) = False := eq_false (by omega)
          have q : (i < s.size) = False := eq_false hlt
          clear hlt
          go_wp2
          go_ret3
          exact ⟨0, ⟨#[]⟩, false, Nat.zero_le _, Nat.zero_le _, rfl, by repeat (first | exact HBE.out | apply Below.drewN')⟩
    · have hne : (bt s 1 != 34) = true := bne_iff_ne.mpr h34
      clear h34
      go_enter Tryd.func20, Tryd.ntmps20
      go_wp2
      go_ret3
      exact ⟨0, ⟨#[]⟩, false, Nat.zero_le _, Nat.zero_le _, rfl, by repeat (first | exact Below.refl _ _ | apply Below.drewN')⟩

end Go.Proofs.YtjalihaidhkofaaDoor.Hand
