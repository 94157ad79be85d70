/- Totality walks of base64 and bytes. -/
import Derived.Test.YtjalihaidhkofaaDoorOwn
namespace Go.Proofs.YtjalihaidhkofaaDoor.Hand
open Go.RowKit
open Go.Proofs.YtjalihaidhkofaaDoor

theorem Bytes.drawn {W W' : World} {B : Nat} {v : Value} {n : Nat} (h : Bytes W B v n) (hd : Drawn0 W W') : Bytes W' B v n := by
  obtain ⟨m, rfl⟩ := hd; exact h.drewN m
theorem Below.drawn {B : Nat} {w W W' : World} (h : Below B w W) (hd : Drawn0 W W') : Below B w W' := by
  obtain ⟨m, rfl⟩ := hd; exact Below.drewN' h m
theorem Drawn0.heap {W W' : World} (hd : Drawn0 W W') : W'.heap.size = W.heap.size := by
  obtain ⟨m, rfl⟩ := hd; rfl

/-- It answers a slice of bytes of the call's own, and two bools. -/
def SomeRow (w : World) (e : Ending) (w' : World) : Prop :=
  ∃ (v : Value) (b1 b2 : Bool) (n : Nat), e = .returned (.tuple #[v, .bool b1, .bool b2]) ∧ Bytes w' w.heap.size v n ∧ Below w.heap.size w w'

/-- base64's first loop: i bytes have been looked at, p of them are padding. -/
def RB1 (s : ByteArray) (gk : Nat) (v2 v5 v15 : Value) : Prop := ∃ i p : Nat, gk = s.size - i ∧ i ≤ s.size ∧ p ≤ i ∧ v2 = .slice none 0 0 ∧ v5 = .int .i64 (p : Nat) ∧ v15 = .int .i64 (i : Nat)
/-- Its second loop: t groups of four have been read. -/
def RB2 (w : World) (L gk : Nat) (v2 v7 : Value) (W : World) : Prop :=
  ∃ t n : Nat, gk = L - t ∧ t ≤ L ∧ v7 = .int .i64 (4 * (t : Int)) ∧ n ≤ 3 * t ∧ Bytes W w.heap.size v2 n ∧ Below w.heap.size w W ∧ w.heap.size ≤ W.heap.size
/-- Its third and fourth loops: some number, and a count up to N. -/
def RB3 (N gk : Nat) (v8 v49 : Value) : Prop := ∃ (x : Int) (k : Nat), gk = N - k ∧ k ≤ N ∧ v8 = .int .i64 x ∧ v49 = .int .i64 (k : Nat)
/-- Its fifth loop: k of a group's bytes are out. -/
def RB5 (w : World) (t many gk : Nat) (v2 v87 : Value) (W : World) : Prop :=
  ∃ k n : Nat, gk = many - k ∧ k ≤ many ∧ v87 = .int .i64 (k : Nat) ∧ n ≤ 3 * t + k ∧ Bytes W w.heap.size v2 n ∧ Below w.heap.size w W ∧ w.heap.size ≤ W.heap.size

set_option maxHeartbeats 8000000 in
set_option maxRecDepth 100000 in
theorem base64_any (s : ByteArray) (w : World) (hs : s.size ≤ 2147483647) : Calls Tryd.prog 28 #[.string s] w (SomeRow w) := by
  have hal : (⟨#[65, 66, 67, 68, 69, 70, 71, 72, 73, 74, 75, 76, 77, 78, 79, 80, 81, 82, 83, 84, 85, 86, 87, 88, 89, 90, 97, 98, 99, 100, 101, 102, 103, 104, 105, 106, 107, 108, 109, 110, 111, 112, 113, 114, 115, 116, 117, 118, 119, 120, 121, 122, 48, 49, 50, 51, 52, 53, 54, 55, 56, 57, 43, 47]⟩ : ByteArray).size ≤ 2147483647 := by decide
  have c10 := fun c w => among_any c ⟨#[65, 66, 67, 68, 69, 70, 71, 72, 73, 74, 75, 76, 77, 78, 79, 80, 81, 82, 83, 84, 85, 86, 87, 88, 89, 90, 97, 98, 99, 100, 101, 102, 103, 104, 105, 106, 107, 108, 109, 110, 111, 112, 113, 114, 115, 116, 117, 118, 119, 120, 121, 122, 48, 49, 50, 51, 52, 53, 54, 55, 56, 57, 43, 47]⟩ w hal
  clear hal
  go_enter Tryd.func28, Tryd.ntmps28
  go_wp2
  go_loopg [2, 5, 15] s.size (fun gk v2 v5 v15 W => RB1 s gk v2 v5 v15 ∧ Drawn0 w W)
  case atStart => exact ⟨⟨0, 0, rfl, Nat.zero_le _, Nat.le_refl _, rfl, rfl, rfl⟩, Drawn0.refl _⟩
  case round =>
    obtain ⟨⟨i, p, hg, hi, hp, rfl, rfl, rfl⟩, ⟨nw, rfl⟩⟩ := hrel
    have HG := Lib.hid hg; clear hg
    by_cases hlt : i < s.size
    · have hx : ∀ h : i < s.size, ((s[i]'h).toNat : Int) = bt s i := bt_at s i
      have qi : ((i : Int) < s.size) = True := eq_true (by omega)
      have q : (i < s.size) = True := eq_true hlt
      have HL := Lib.hid hlt; clear hlt
      by_cases h61 : bt s i = 61
      · have t61 : (bt s i == 61) = true := beq_iff_eq.mpr h61
        have H61 := Lib.hid h61; clear h61
        clear c10
        go_wp2
        go_roundg (s.size - (i + 1))
        case measure => have := HL.out; have := HG.out; omega
        case rel => exact ⟨⟨i + 1, p + 1, rfl, HL.out, by omega, rfl, by go_num, by go_num⟩, by repeat (first | exact Drawn0.refl _ | apply Drawn0.step)⟩
      · have t61 : (bt s i == 61) = false := beq_eq_false_iff_ne.mpr h61
        have H61 := Lib.hid h61; clear h61
        by_cases hp0 : 0 < p
        · have tp : decide (0 < (p : Int)) = true := decide_eq_true (by omega)
          have tpn : decide (0 < p) = true := decide_eq_true (by omega)
          clear hp0
          go_wp2_with (first | (go_at_call 10; refine (c10 _ _).mono ?_; rintro e w' ⟨b, rfl, ⟨nd, rfl⟩⟩))
          all_goals
            go_ret3
            exact ⟨.slice none 0 0, _, _, 0, rfl, Bytes.nil _ _, by repeat (first | exact Below.refl _ _ | apply Below.drewN')⟩
        · have tp : decide (0 < (p : Int)) = false := decide_eq_false (by omega)
          have tpn : decide (0 < p) = false := decide_eq_false (by omega)
          clear hp0
          go_wp2_with (first | (go_at_call 10; refine (c10 _ _).mono ?_; rintro e w' ⟨b, rfl, ⟨nd, rfl⟩⟩))
          · go_ret3
            exact ⟨.slice none 0 0, _, _, 0, rfl, Bytes.nil _ _, by repeat (first | exact Below.refl _ _ | apply Below.drewN')⟩
          · go_roundg (s.size - (i + 1))
            case measure => have := HL.out; have := HG.out; omega
            case rel => exact ⟨⟨i + 1, p, rfl, HL.out, by omega, rfl, rfl, by go_num⟩, by repeat (first | exact Drawn0.refl _ | apply Drawn0.step)⟩
    · have qi : ((i : Int) < s.size) = False := eq_false (by omega)
      have q : (i < s.size) = False := eq_false hlt
      clear hlt c10 HG
      have r4 : ((s.size : Int) % 4 != 0) = true ∨ ((s.size : Int) % 4 != 0) = false := by cases h : ((s.size : Int) % 4 != 0) <;> simp
      by_cases h4 : s.size % 4 = 0
      · obtain ⟨L, hL⟩ : ∃ L, s.size = 4 * L := ⟨s.size / 4, by omega⟩
        clear r4
        have t4 : ((s.size : Int) % 4 != 0) = false := bne_eq_false_iff_eq.mpr (by omega)
        clear h4
        by_cases hp2 : p ≤ 2
        · have tp : decide (2 < (p : Int)) = false := decide_eq_false (by omega)
          have HL4 := Lib.hid hL; clear hL
          clear hi hp
          go_wp2
          have hnw : w.heap.size ≤ (w.drewN nw).heap.size := Nat.le_refl _
          go_loopg [2, 7] L (fun gk v2 v7 W => RB2 w L gk v2 v7 W)
          case atStart => exact ⟨0, 0, rfl, Nat.zero_le _, rfl, by omega, Bytes.nil _ _, Below.drewN' (Below.refl _ _) _, hnw⟩
          case round =>
            obtain ⟨wo, rfl⟩ : ∃ wo : World, wo = wr := ⟨_, rfl⟩
            clear qi q t4 tp hnw
            obtain ⟨t, n, hg, ht, rfl, hn, hby, hbel, hwz⟩ := hrel
            have HG := Lib.hid hg; clear hg
            have HBY := Lib.hid hby; clear hby
            have HBE := Lib.hid hbel; clear hbel
            have hLb : L ≤ 536870911 := by have := HL4.out; omega
            by_cases hlt : t < L
            · have dl : decide (4 * (t : Int) < s.size) = true := decide_eq_true (by have := HL4.out; omega)
              have HL := Lib.hid hlt; clear hlt
              go_wp2
              go_loopg [8, 49] 4 (fun gk v8 v49 W => RB3 4 gk v8 v49 ∧ Drawn0 wo W)
              case atStart => exact ⟨⟨0, 0, rfl, by omega, rfl, rfl⟩, Drawn0.refl _⟩
              case round =>
                clear dl
                obtain ⟨⟨x, k, hgk, hk, rfl, rfl⟩, ⟨nw3, rfl⟩⟩ := hrel
                have HGK := Lib.hid hgk; clear hgk
                by_cases hk4 : k < 4
                · have dk : decide ((k : Int) < 4) = true := decide_eq_true (by omega)
                  go_wp2
                  go_loopg [8, 54] 64 (fun gk v8 v54 W => RB3 64 gk v8 v54 ∧ Drawn0 wo W)
                  case atStart => exact ⟨⟨_, 0, rfl, by omega, rfl, rfl⟩, by repeat (first | exact Drawn0.refl _ | apply Drawn0.step)⟩
                  case round =>
                    clear dk
                    obtain ⟨⟨y, j, hgj, hj, rfl, rfl⟩, ⟨nw4, rfl⟩⟩ := hrel
                    have HGJ := Lib.hid hgj; clear hgj
                    by_cases hj64 : j < 64
                    · have dj : decide ((j : Int) < 64) = true := decide_eq_true (by omega)
                      have hin : 4 * t + k < s.size := by have := HL4.out; have := HL.out; omega
                      have hxl : ∀ h : j < (⟨#[65, 66, 67, 68, 69, 70, 71, 72, 73, 74, 75, 76, 77, 78, 79, 80, 81, 82, 83, 84, 85, 86, 87, 88, 89, 90, 97, 98, 99, 100, 101, 102, 103, 104, 105, 106, 107, 108, 109, 110, 111, 112, 113, 114, 115, 116, 117, 118, 119, 120, 121, 122, 48, 49, 50, 51, 52, 53, 54, 55, 56, 57, 43, 47]⟩ : ByteArray).size, (((⟨#[65, 66, 67, 68, 69, 70, 71, 72, 73, 74, 75, 76, 77, 78, 79, 80, 81, 82, 83, 84, 85, 86, 87, 88, 89, 90, 97, 98, 99, 100, 101, 102, 103, 104, 105, 106, 107, 108, 109, 110, 111, 112, 113, 114, 115, 116, 117, 118, 119, 120, 121, 122, 48, 49, 50, 51, 52, 53, 54, 55, 56, 57, 43, 47]⟩ : ByteArray)[j]'h).toNat : Int) = bt ⟨#[65, 66, 67, 68, 69, 70, 71, 72, 73, 74, 75, 76, 77, 78, 79, 80, 81, 82, 83, 84, 85, 86, 87, 88, 89, 90, 97, 98, 99, 100, 101, 102, 103, 104, 105, 106, 107, 108, 109, 110, 111, 112, 113, 114, 115, 116, 117, 118, 119, 120, 121, 122, 48, 49, 50, 51, 52, 53, 54, 55, 56, 57, 43, 47]⟩ j := bt_at _ j
                      have qj : ((j : Int) < 64) = True := eq_true (by omega)
                      have qjn : (j < 64) = True := eq_true hj64
                      have hxs : ∀ h : (4 * (t : Int) + k).toNat < s.size, ((s[(4 * (t : Int) + k).toNat]'h).toNat : Int) = bt s (4 * (t : Int) + k) := bt_at s _
                      have qs : (4 * (t : Int) + k < s.size) = True := eq_true (by omega)
                      have qsn : ((4 * (t : Int) + k).toNat < s.size) = True := eq_true (by omega)
                      have qs0 : (0 ≤ 4 * (t : Int) + k) = True := eq_true (by omega)
                      have HJ := Lib.hid hj64; clear hj64
                      have HIN := Lib.hid hin; clear hin
                      have hw : IntKind.i64.wrap (4 * (t : Int) + k) = 4 * (t : Int) + k := IntWalk.i64_in _ (by omega)
                      go_wp2
                      go_quiet (fail)
                      clear hw
                      go_wp2
                      all_goals
                        go_roundg (64 - (j + 1))
                        case measure => have := HJ.out; have := HGJ.out; omega
                        case rel => exact ⟨⟨_, j + 1, rfl, HJ.out, rfl, by go_num⟩, by repeat (first | exact Drawn0.refl _ | apply Drawn0.step)⟩
                    · have dj : decide ((j : Int) < 64) = false := decide_eq_false (by omega)
                      clear hj64
                      go_wp2
                      go_roundg (4 - (k + 1))
                      case measure => have := HGK.out; omega
                      case rel => exact ⟨⟨y, k + 1, rfl, by omega, rfl, by go_num⟩, by repeat (first | exact Drawn0.refl _ | apply Drawn0.step)⟩
                · have dk : decide ((k : Int) < 4) = false := decide_eq_false (by omega)
                  clear hk4
                  by_cases hend : 4 * t + 4 = s.size
                  · skip
                    have te : (4 * (t : Int) + 4 == s.size) = true := beq_iff_eq.mpr (by omega)
                    have HE := Lib.hid hend; clear hend
                    obtain ⟨d85, h85⟩ : ∃ d : Bool, (Go.bits .and .i64 x (wrap64 (wrap64 ((2 : Int) ^ (24 - 8 * (3 - p))) - 1)) != 0) = d := ⟨_, rfl⟩
                    cases d85
                    · go_wp2
                      go_loopg [2, 87] (3 - p) (fun gk v2 v87 W => RB5 w t (3 - p) gk v2 v87 W)
                      case atStart => exact ⟨0, n, rfl, by omega, rfl, by omega, HBY.out.drewN _, Below.drewN' HBE.out _, hwz⟩
                      case round =>
                        clear te h85
                        obtain ⟨k5, n5, hg5, hk5, rfl, hn5, hby5, hbel5, hwz5⟩ := hrel
                        have HG5 := Lib.hid hg5; clear hg5
                        have HBY5 := Lib.hid hby5; clear hby5
                        have HBE5 := Lib.hid hbel5; clear hbel5
                        by_cases h5 : k5 < 3 - p
                        · have d5 : decide ((k5 : Int) < 3 - (p : Int)) = true := decide_eq_true (by omega)
                          have hk2 : k5 ≤ 2 := by omega
                          have H5 := Lib.hid h5; clear h5
                          go_wp2_with (first | (at_builtin; refine append_byte HBY5.out HBE5.out rfl (.tmp 90) (.tmp 97) rfl rfl _ rfl ?_ ?_ ?_; (case _ => omega); (case _ => exact hwz5); intro v' W' hby' hbel' hwz'; have HBY' := Lib.hid hby'; clear hby'; have HBE' := Lib.hid hbel'; clear hbel'))
                          go_roundg (3 - p - (k5 + 1))
                          case measure => have := H5.out; have := HG5.out; omega
                          case rel => exact ⟨k5 + 1, n5 + 1, rfl, H5.out, by go_num, by omega, HBY'.out, HBE'.out, hwz'⟩
                        · have d5 : decide ((k5 : Int) < 3 - (p : Int)) = false := decide_eq_false (by omega)
                          clear h5
                          go_wp2
                          go_roundg (L - (t + 1))
                          case measure => have := HL.out; have := HG.out; omega
                          case rel => exact ⟨t + 1, n5, rfl, HL.out, by go_num, by omega, HBY5.out, HBE5.out, hwz5⟩
                    · go_wp2
                      go_ret3
                      exact ⟨.slice none 0 0, _, _, 0, rfl, Bytes.nil _ _, by repeat (first | exact HBE.out | apply Below.drewN')⟩
                  · skip
                    have te : (4 * (t : Int) + 4 == s.size) = false := beq_eq_false_iff_ne.mpr (by omega)
                    have HE := Lib.hid hend; clear hend
                    obtain ⟨d85, h85⟩ : ∃ d : Bool, (Go.bits .and .i64 x 0 != 0) = d := ⟨_, rfl⟩
                    cases d85
                    · go_wp2
                      go_loopg [2, 87] (3) (fun gk v2 v87 W => RB5 w t (3) gk v2 v87 W)
                      case atStart => exact ⟨0, n, rfl, by omega, rfl, by omega, HBY.out.drewN _, Below.drewN' HBE.out _, hwz⟩
                      case round =>
                        clear te h85
                        obtain ⟨k5, n5, hg5, hk5, rfl, hn5, hby5, hbel5, hwz5⟩ := hrel
                        have HG5 := Lib.hid hg5; clear hg5
                        have HBY5 := Lib.hid hby5; clear hby5
                        have HBE5 := Lib.hid hbel5; clear hbel5
                        by_cases h5 : k5 < 3
                        · have d5 : decide ((k5 : Int) < 3) = true := decide_eq_true (by omega)
                          have hk2 : k5 ≤ 2 := by omega
                          have H5 := Lib.hid h5; clear h5
                          go_wp2_with (first | (at_builtin; refine append_byte HBY5.out HBE5.out rfl (.tmp 90) (.tmp 97) rfl rfl _ rfl ?_ ?_ ?_; (case _ => omega); (case _ => exact hwz5); intro v' W' hby' hbel' hwz'; have HBY' := Lib.hid hby'; clear hby'; have HBE' := Lib.hid hbel'; clear hbel'))
                          go_roundg (3 - (k5 + 1))
                          case measure => have := H5.out; have := HG5.out; omega
                          case rel => exact ⟨k5 + 1, n5 + 1, rfl, H5.out, by go_num, by omega, HBY'.out, HBE'.out, hwz'⟩
                        · have d5 : decide ((k5 : Int) < 3) = false := decide_eq_false (by omega)
                          clear h5
                          go_wp2
                          go_roundg (L - (t + 1))
                          case measure => have := HL.out; have := HG.out; omega
                          case rel => exact ⟨t + 1, n5, rfl, HL.out, by go_num, by omega, HBY5.out, HBE5.out, hwz5⟩
                    · go_wp2
                      go_ret3
                      exact ⟨.slice none 0 0, _, _, 0, rfl, Bytes.nil _ _, by repeat (first | exact HBE.out | apply Below.drewN')⟩
            · have dl : decide (4 * (t : Int) < s.size) = false := decide_eq_false (by have := HL4.out; omega)
              have HL := Lib.hid hlt; clear hlt
              go_wp2
              go_ret3
              exact ⟨_, _, _, n, rfl, HBY.out, HBE.out⟩
        · have tp : decide (2 < (p : Int)) = true := decide_eq_true (by omega)
          clear hp2 hL
          go_wp2
          go_ret3
          exact ⟨.slice none 0 0, _, _, 0, rfl, Bytes.nil _ _, by repeat (first | exact Below.refl _ _ | apply Below.drewN')⟩
      · have t4 : ((s.size : Int) % 4 != 0) = true := bne_iff_ne.mpr (by omega)
        clear h4 r4
        go_wp2
        go_ret3
        exact ⟨.slice none 0 0, _, _, 0, rfl, Bytes.nil _ _, by repeat (first | exact Below.refl _ _ | apply Below.drewN')⟩

/-- It answers a number up to N, a slice of bytes of the call's own, and two bools. -/
def SomeRow4 (N : Nat) (w : World) (e : Ending) (w' : World) : Prop :=
  ∃ (i : Nat) (v : Value) (b1 b2 : Bool) (n : Nat), i ≤ N ∧ e = .returned (.tuple #[.int .i64 (i : Nat), v, .bool b1, .bool b2]) ∧ Bytes w' w.heap.size v n ∧ Below w.heap.size w w'

/-- An index from 1 to N; gk rounds are to come. -/
def RY (N gk : Nat) (v : Value) : Prop := ∃ i : Nat, gk = N - i ∧ 1 ≤ i ∧ i ≤ N ∧ v = .int .i64 (i : Nat)

set_option maxHeartbeats 1000000 in
set_option maxRecDepth 100000 in
theorem bytes_any (s : ByteArray) (w : World) (hs : s.size ≤ 2147483647) (h0 : 0 < s.size) (hq : bt s 0 = 58) : Calls Tryd.prog 19 #[.string s] w (SomeRow4 s.size w) := by
  have hx0 : ∀ h : 0 < s.size, ((s[0]'h).toNat : Int) = 58 := fun h => (bt_at s 0 h).trans hq
  have hi0 : ((0 : Int) < s.size) = True := eq_true (by omega)
  have hd0 : (0 < s.size) = True := eq_true (by omega)
  have e1 := full_beq h0
  have e3 := full_empty h0
  have H0 := Lib.hid h0; clear h0 hq
  go_enter Tryd.func19, Tryd.ntmps19
  go_wp2
  go_loopg [2] (s.size - 1) (fun gk v2 W => RY s.size gk v2 ∧ Drawn0 w W)
  case atStart => exact ⟨⟨1, rfl, Nat.le_refl _, H0.out, rfl⟩, Drawn0.refl _⟩
  case round =>
    clear hx0 hi0 hd0 e1 e3
    obtain ⟨⟨i, hg, h1, hi, rfl⟩, ⟨nw, rfl⟩⟩ := hrel
    have HG := Lib.hid hg; clear hg
    by_cases hlt : i < s.size
    · have hx : ∀ h : i < s.size, ((s[i]'h).toNat : Int) = bt s i := bt_at s i
      have qi : ((i : Int) < s.size) = True := eq_true (by omega)
      have q : (i < s.size) = True := eq_true hlt
      have HL := Lib.hid hlt; clear hlt
      by_cases h58 : bt s i = 58
      · have t58 : (bt s i == 58) = true := beq_iff_eq.mpr h58
        have H58 := Lib.hid h58; clear h58
        have hsl := fun wx => run_slice_string (P := Tryd.prog) (w := wx) 9 s .i64 .i64 1 (i : Int) Tryd.underlying9 (by omega) (by omega) (by omega)
        rw [Int.toNat_natCast, show (1 : Int).toNat = 1 from rfl] at hsl
        have c28 := fun w => base64_any (s.extract 1 i) w (by simp; omega)
        go_wp2_with (first | (go_at_call 28; refine (c28 _).mono ?_; rintro e w' ⟨v, b1, b2, n, rfl, hby, hbe⟩; have HBY := Lib.hid hby; clear hby; have HBE := Lib.hid hbe; clear hbe))
        refine bodyPost_ret (v := .tuple #[.int .i64 ((i : Int) + 1), v, .bool b1, .bool b2]) (by simp [results, Tryd.results19, go_sem]) rfl ⟨i + 1, v, b1, b2, n, HL.out, by go_num, HBY.out, ?_⟩
        exact (Below.drewN' (Below.refl _ _) nw).trans HBE.out
      · have t58 : (bt s i == 58) = false := beq_eq_false_iff_ne.mpr h58
        have H58 := Lib.hid h58; clear h58
        go_wp2
        go_roundg (s.size - (i + 1))
        case measure => have := HL.out; have := HG.out; omega
        case rel => exact ⟨⟨i + 1, rfl, by omega, HL.out, by go_num⟩, by repeat (first | exact Drawn0.refl _ | apply Drawn0.step)⟩
    · have qi : ((i : Int) < s.size) = False := eq_false (by omega)
      have q : (i < s.size) = False := eq_false hlt
      clear hlt
      go_wp2
      refine bodyPost_ret (v := .tuple #[.int .i64 0, .slice none 0 0, .bool false, .bool false]) (by simp [results, Tryd.results19, go_sem]) rfl ⟨0, _, _, _, 0, Nat.zero_le _, rfl, Bytes.nil _ _, by repeat (first | exact Below.refl _ _ | apply Below.drewN')⟩
end Go.Proofs.YtjalihaidhkofaaDoor.Hand
