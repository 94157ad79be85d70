/- Totality walks: functions of the reference that a text without a number at its beginning reaches: each returns, and what it returns lies within the text. -/
import Derived.Test.YtjalihaidhkofaaDoorBase

namespace Go.Proofs.YtjalihaidhkofaaDoor.Hand
open Go.RowKit
open Go.Proofs.YtjalihaidhkofaaDoor

/-- It answers some bool. -/
def SomeBool (w : World) (e : Ending) (w' : World) : Prop := ∃ b : Bool, e = .returned (.bool b) ∧ Drawn0 w w'
/-- It answers a whole number from 0 to N. -/
def SomeUpto (N : Nat) (w : World) (e : Ending) (w' : World) : Prop := ∃ n : Nat, n ≤ N ∧ e = .returned (.int .i64 (n : Nat)) ∧ Drawn0 w w'

set_option maxRecDepth 100000 in
theorem letter_any (c : Int) (w : World) : Calls Tryd.prog 17 #[.int .u8 c] w (SomeBool w) := by
  go_enter Tryd.func17, Tryd.ntmps17
  go_wp2
  all_goals
    go_ret
    exact ⟨_, rfl, Drawn0.refl _⟩

set_option maxRecDepth 100000 in
theorem digit_any (c : Int) (w : World) : Calls Tryd.prog 14 #[.int .u8 c] w (SomeBool w) := by
  go_enter Tryd.func14, Tryd.ntmps14
  go_wp2
  all_goals
    go_ret
    exact ⟨_, rfl, Drawn0.refl _⟩

/-- An index from 0 to N; gk rounds are to come. -/
def RX (N gk : Nat) (v : Value) : Prop := ∃ i : Nat, gk = N - i ∧ i ≤ N ∧ v = .int .i64 (i : Nat)

set_option maxRecDepth 100000 in
theorem among_any (c : Int) (t : ByteArray) (w : World) (hs : t.size ≤ 2147483647) : Calls Tryd.prog 10 #[.int .u8 c, .string t] w (SomeBool w) := by
  go_enter Tryd.func10, Tryd.ntmps10
  go_wp2
  go_loopg [8] t.size (fun gk v8 w' => RX t.size gk v8 ∧ Drawn0 w w')
  case atStart => exact ⟨⟨0, rfl, Nat.zero_le _, rfl⟩, Drawn0.refl _⟩
  case round =>
    obtain ⟨⟨i, hg, hi, rfl⟩, ⟨nw, rfl⟩⟩ := hrel
    have HG := Lib.hid hg; clear hg
    by_cases hlt : i < t.size
    · have hx : ∀ h : i < t.size, ((t[i]'h).toNat : Int) = bt t i := bt_at t i
      have qi : ((i : Int) < t.size) = True := eq_true (by omega)
      have q : (i < t.size) = True := eq_true hlt
      have HL := Lib.hid hlt; clear hlt
      by_cases hc : bt t i = c
      · have hb : (bt t i == c) = true := beq_iff_eq.mpr hc
        have HC := Lib.hid hc; clear hc
        go_wp2
        go_ret
        exact ⟨_, rfl, by repeat (first | exact Drawn0.refl _ | apply Drawn0.step)⟩
      · have hb : (bt t i == c) = false := beq_eq_false_iff_ne.mpr hc
        have HC := Lib.hid hc; clear hc
        go_wp2
        go_roundg (t.size - (i + 1))
        case measure => have := HL.out; have := HG.out; omega
        case rel => exact ⟨⟨i + 1, rfl, HL.out, by go_num⟩, by repeat (first | exact Drawn0.refl _ | apply Drawn0.step)⟩
    · have qi : ((i : Int) < t.size) = False := eq_false (by omega)
      have q : (i < t.size) = False := eq_false hlt
      clear hlt
      go_wp2
      go_ret
      exact ⟨_, rfl, by repeat (first | exact Drawn0.refl _ | apply Drawn0.step)⟩

set_option maxRecDepth 100000 in
theorem tchar_any (c : Int) (w : World) : Calls Tryd.prog 27 #[.int .u8 c] w (SomeBool w) := by
  have h15 : (⟨#[33, 35, 36, 37, 38, 39, 42, 43, 45, 46, 94, 95, 96, 124, 126]⟩ : ByteArray).size ≤ 2147483647 := by decide
  have c17 := fun w => letter_any c w
  have c14 := fun w => digit_any c w
  have c10 := fun w => among_any c ⟨#[33, 35, 36, 37, 38, 39, 42, 43, 45, 46, 94, 95, 96, 124, 126]⟩ w h15
  clear h15
  go_enter Tryd.func27, Tryd.ntmps27
  go_wp2_with (first | (go_at_call 17; refine (c17 _).mono ?_; rintro e w' ⟨b, rfl, ⟨nd, rfl⟩⟩) | (go_at_call 14; refine (c14 _).mono ?_; rintro e w' ⟨b2, rfl, ⟨nd2, rfl⟩⟩) | (go_at_call 10; refine (c10 _).mono ?_; rintro e w' ⟨b3, rfl, ⟨nd3, rfl⟩⟩))
  all_goals
    go_ret
    exact ⟨_, rfl, by repeat (first | exact Drawn0.refl _ | apply Drawn0.step)⟩

theorem full_text {s : ByteArray} (h : 0 < s.size) : s.toList ≠ [] := by
  rw [ByteArray.toList_eq]; intro e
  have : s.data.toList.length = s.size := by simp
  rw [e] at this; simp at this; omega
theorem full_beq {s : ByteArray} (h : 0 < s.size) : (s.toList == ([] : List UInt8)) = false := beq_eq_false_iff_ne.mpr (full_text h)
theorem full_bne {s : ByteArray} (h : 0 < s.size) : (s.toList != ([] : List UInt8)) = true := bne_iff_ne.mpr (full_text h)
theorem full_empty {s : ByteArray} (h : 0 < s.size) : s.toList.isEmpty = false := by
  have := full_text h
  cases e : s.toList with
  | nil => exact absurd e this
  | cons a l => rfl
theorem full_not {s : ByteArray} (h : 0 < s.size) : (!s.toList.isEmpty) = true := by rw [full_empty h]; rfl

set_option maxHeartbeats 1000000 in
set_option maxRecDepth 100000 in
theorem token_any (s : ByteArray) (w : World) (hs : s.size ≤ 2147483647) (h0 : 0 < s.size) : Calls Tryd.prog 18 #[.string s] w (SomeUpto s.size w) := by
  have hx0 : ∀ h : 0 < s.size, ((s[0]'h).toNat : Int) = bt s 0 := bt_at s 0
  have hi0 : ((0 : Int) < s.size) = True := eq_true (by omega)
  have hd0 : (0 < s.size) = True := eq_true (by omega)
  have e1 := full_beq h0
  have e3 := full_empty h0
  have c17 := fun w => letter_any (bt s 0) w
  have H0 := Lib.hid h0; clear h0
  obtain ⟨d42, h42⟩ : ∃ d : Bool, (bt s 0 != 42) = d := ⟨_, rfl⟩
  cases d42
  all_goals
    go_enter Tryd.func18, Tryd.ntmps18
    go_wp2_with (first | (go_at_call 17; refine (c17 _).mono ?_; rintro e w' ⟨b, rfl, ⟨nd, rfl⟩⟩))
    all_goals first | (go_ret; exact ⟨0, Nat.zero_le _, rfl, by repeat (first | exact Drawn0.refl _ | apply Drawn0.step)⟩) | skip
    all_goals
      go_loopg [3] (s.size - 1) (fun gk v3 w' => RX s.size gk v3 ∧ Drawn0 w w')
      case atStart => exact ⟨⟨1, rfl, H0.out, rfl⟩, by repeat (first | exact Drawn0.refl _ | apply Drawn0.step)⟩
      case round =>
        clear hx0 hi0 hd0 e1 e3 c17
        obtain ⟨⟨i, hg, hi, rfl⟩, ⟨nw, rfl⟩⟩ := hrel
        have HG := Lib.hid hg; clear hg
        by_cases hlt : i < s.size
        · have hx : ∀ h : i < s.size, ((s[i]'h).toNat : Int) = bt s i := bt_at s i
          have qi : ((i : Int) < s.size) = True := eq_true (by omega)
          have q : (i < s.size) = True := eq_true hlt
          have c27 := fun w => tchar_any (bt s i) w
          have HL := Lib.hid hlt; clear hlt
          go_wp2_with (first | (go_at_call 27; refine (c27 _).mono ?_; rintro e w' ⟨b3, rfl, ⟨nd3, rfl⟩⟩))
          all_goals first
            | (go_roundg (s.size - (i + 1))
               case measure => have := HL.out; have := HG.out; omega
               case rel => exact ⟨⟨i + 1, rfl, HL.out, by go_num⟩, by repeat (first | exact Drawn0.refl _ | apply Drawn0.step)⟩)
            | (go_ret; exact ⟨i, hi, rfl, by repeat (first | exact Drawn0.refl _ | apply Drawn0.step)⟩)
        · have qi : ((i : Int) < s.size) = False := eq_false (by omega)
          have q : (i < s.size) = False := eq_false hlt
          clear hlt
          go_wp2
          go_ret
          exact ⟨i, hi, rfl, by repeat (first | exact Drawn0.refl _ | apply Drawn0.step)⟩

/-- What holds at the head of has' loop. -/
def RH (s : ByteArray) (gk : Nat) (v : Value) : Prop := ∃ i : Nat, gk = s.size + 1 - i ∧ i ≤ s.size + 1 ∧ v = .int .i64 (i : Nat)

set_option maxRecDepth 100000 in
theorem has_any (s t : ByteArray) (w : World) (hs : s.size ≤ 2147483647) (ht : t.size ≤ 2147483647) (h0 : 0 < t.size) : Calls Tryd.prog 21 #[.string s, .string t] w (SomeBool w) := by
  have H0 := Lib.hid h0; clear h0
  go_enter Tryd.func21, Tryd.ntmps21
  go_wp2
  go_loopg [5] (s.size + 1) (fun gk v5 w' => RH s gk v5 ∧ Drawn0 w w')
  case atStart => exact ⟨⟨0, rfl, Nat.zero_le _, rfl⟩, Drawn0.refl _⟩
  case round =>
    obtain ⟨⟨i, hg, hi, rfl⟩, ⟨nw, rfl⟩⟩ := hrel
    have HG := Lib.hid hg; clear hg
    have hib : i ≤ 2147483648 := by omega
    by_cases hlt : i + t.size ≤ s.size
    · have d : decide ((i : Int) + t.size ≤ s.size) = true := decide_eq_true (by omega)
      have hsl := fun wx => run_slice_string (P := Tryd.prog) (w := wx) 9 s .i64 .i64 (i : Int) ((i : Int) + t.size) Tryd.underlying9 (by omega) (by omega) (by omega)
      have et : ((i : Int) + t.size).toNat = i + t.size := by omega
      rw [et, Int.toNat_natCast] at hsl
      clear et
      have HL := Lib.hid hlt; clear hlt
      by_cases he : (s.extract i (i + t.size)).toList = t.toList
      · have hb : ((s.extract i (i + t.size)).toList == t.toList) = true := beq_iff_eq.mpr he
        have HE := Lib.hid he; clear he
        go_wp2
        go_ret
        exact ⟨_, rfl, by repeat (first | exact Drawn0.refl _ | apply Drawn0.step)⟩
      · have hb : ((s.extract i (i + t.size)).toList == t.toList) = false := beq_eq_false_iff_ne.mpr he
        have HE := Lib.hid he; clear he
        go_wp2
        go_roundg (s.size + 1 - (i + 1))
        case measure => have := HL.out; have := HG.out; omega
        case rel => exact ⟨⟨i + 1, rfl, by have := HL.out; omega, by go_num⟩, by repeat (first | exact Drawn0.refl _ | apply Drawn0.step)⟩
    · have d : decide ((i : Int) + t.size ≤ s.size) = false := decide_eq_false (by omega)
      have HL := Lib.hid hlt; clear hlt
      go_wp2
      go_ret
      exact ⟨_, rfl, by repeat (first | exact Drawn0.refl _ | apply Drawn0.step)⟩

/-- It answers some byte and some bool. -/
def SomeByte (w : World) (e : Ending) (w' : World) : Prop := ∃ (x : Int) (b : Bool), e = .returned (.tuple #[.int .u8 x, .bool b]) ∧ Drawn0 w w'

set_option maxRecDepth 100000 in
theorem small_any (c : Int) (w : World) : Calls Tryd.prog 29 #[.int .u8 c] w (SomeByte w) := by
  have c14 := fun w => digit_any c w
  go_enter Tryd.func29, Tryd.ntmps29
  go_wp2_with (first | (go_at_call 14; refine (c14 _).mono ?_; rintro e w' ⟨b2, rfl, ⟨nd2, rfl⟩⟩))
  all_goals
    go_ret2
    exact ⟨_, _, rfl, by repeat (first | exact Drawn0.refl _ | apply Drawn0.step)⟩

/-- What holds at the head of size's loop. -/
def RS (n gk : Nat) (v3 v6 : Value) : Prop := ∃ (x : Int) (i : Nat), gk = n - i ∧ i ≤ n ∧ v3 = .int .i64 x ∧ v6 = .int .i64 (i : Nat)

set_option maxHeartbeats 2000000 in
set_option maxRecDepth 100000 in
theorem size_any (s : ByteArray) (w : World) (hs : s.size ≤ 2147483647) (h0 : 0 < s.size) : Calls Tryd.prog 36 #[.string s] w (SomeUpto s.size w) := by
  have hx0 : ∀ h : 0 < s.size, ((s[0]'h).toNat : Int) = bt s 0 := bt_at s 0
  have hi0 : ((0 : Int) < s.size) = True := eq_true (by omega)
  have hd0 : (0 < s.size) = True := eq_true (by omega)
  have r0 := (bt_range s 0).1
  have r1 := (bt_range s 0).2
  have hn1 := h0
  have H0 := Lib.hid hn1; clear hn1
  have hr : bt s 0 < 128 ∨ (128 ≤ bt s 0 ∧ bt s 0 ≤ 193) ∨ (194 ≤ bt s 0 ∧ bt s 0 ≤ 223) ∨ (224 ≤ bt s 0 ∧ bt s 0 ≤ 239) ∨ (240 ≤ bt s 0 ∧ bt s 0 ≤ 244) ∨ 245 ≤ bt s 0 := by omega
  rcases hr with hr | hr | hr | hr | hr | hr
  · skip
    have t0 : decide (bt s 0 < 128) = true := decide_eq_true (by omega)
    have t1 : decide (194 ≤ bt s 0) = false := decide_eq_false (by omega)
    have t2 : decide (bt s 0 < 224) = true := decide_eq_true (by omega)
    have t3 : decide (224 ≤ bt s 0) = false := decide_eq_false (by omega)
    have t4 : decide (bt s 0 < 240) = true := decide_eq_true (by omega)
    have t5 : decide (240 ≤ bt s 0) = false := decide_eq_false (by omega)
    have t6 : decide (bt s 0 < 245) = true := decide_eq_true (by omega)
    clear hr h0
    go_enter Tryd.func36, Tryd.ntmps36
    go_wp2
    all_goals first | (go_ret; exact ⟨0, Nat.zero_le _, rfl, by repeat (first | exact Drawn0.refl _ | apply Drawn0.step)⟩) | (go_ret; exact ⟨1, H0.out, rfl, by repeat (first | exact Drawn0.refl _ | apply Drawn0.step)⟩)
  · skip
    have t0 : decide (bt s 0 < 128) = false := decide_eq_false (by omega)
    have t1 : decide (194 ≤ bt s 0) = false := decide_eq_false (by omega)
    have t2 : decide (bt s 0 < 224) = true := decide_eq_true (by omega)
    have t3 : decide (224 ≤ bt s 0) = false := decide_eq_false (by omega)
    have t4 : decide (bt s 0 < 240) = true := decide_eq_true (by omega)
    have t5 : decide (240 ≤ bt s 0) = false := decide_eq_false (by omega)
    have t6 : decide (bt s 0 < 245) = true := decide_eq_true (by omega)
    clear hr h0
    go_enter Tryd.func36, Tryd.ntmps36
    go_wp2
    all_goals first | (go_ret; exact ⟨0, Nat.zero_le _, rfl, by repeat (first | exact Drawn0.refl _ | apply Drawn0.step)⟩) | (go_ret; exact ⟨1, H0.out, rfl, by repeat (first | exact Drawn0.refl _ | apply Drawn0.step)⟩)
  · skip
    have t0 : decide (bt s 0 < 128) = false := decide_eq_false (by omega)
    have t1 : decide (194 ≤ bt s 0) = true := decide_eq_true (by omega)
    have t2 : decide (bt s 0 < 224) = true := decide_eq_true (by omega)
    have t3 : decide (224 ≤ bt s 0) = false := decide_eq_false (by omega)
    have t4 : decide (bt s 0 < 240) = true := decide_eq_true (by omega)
    have t5 : decide (240 ≤ bt s 0) = false := decide_eq_false (by omega)
    have t6 : decide (bt s 0 < 245) = true := decide_eq_true (by omega)
    clear hr h0
    by_cases hn : s.size < 2
    · have hnb : decide ((s.size : Int) < 2) = true := decide_eq_true (by omega)
      have HN := Lib.hid hn; clear hn
      skip
      go_enter Tryd.func36, Tryd.ntmps36
      go_wp2
      go_ret
      exact ⟨0, Nat.zero_le _, rfl, by repeat (first | exact Drawn0.refl _ | apply Drawn0.step)⟩
    · have hnb : decide ((s.size : Int) < 2) = false := decide_eq_false (by omega)
      have HN := Lib.hid hn; clear hn
      skip
      go_enter Tryd.func36, Tryd.ntmps36
      go_wp2
      go_loopg [3, 6] 1 (fun gk v3 v6 w' => RS 2 gk v3 v6 ∧ Drawn0 w w')
      case atStart => exact ⟨⟨_, 1, rfl, by omega, rfl, rfl⟩, by repeat (first | exact Drawn0.refl _ | apply Drawn0.step)⟩
      case round =>
        obtain ⟨⟨x, i, hg, hi, rfl, rfl⟩, ⟨nw, rfl⟩⟩ := hrel
        have HG := Lib.hid hg; clear hg
        by_cases hlt : i < 2
        · have his : i < s.size := by have := HN.out; omega
          have hd : decide ((i : Int) < 2) = true := decide_eq_true (by omega)
          have hx : ∀ h : i < s.size, ((s[i]'h).toNat : Int) = bt s i := bt_at s i
          have qi : ((i : Int) < s.size) = True := eq_true (by omega)
          have q : (i < s.size) = True := eq_true his
          have c0 := (bt_range s i).1
          have c1 := (bt_range s i).2
          have HL := Lib.hid hlt; clear hlt his
          go_wp2
          all_goals first
            | (go_roundg (2 - (i + 1))
               case measure => have := HL.out; have := HG.out; omega
               case rel => exact ⟨⟨_, i + 1, rfl, HL.out, rfl, by go_num⟩, by repeat (first | exact Drawn0.refl _ | apply Drawn0.step)⟩)
            | (go_ret; exact ⟨0, Nat.zero_le _, rfl, by repeat (first | exact Drawn0.refl _ | apply Drawn0.step)⟩)
        · have hd : decide ((i : Int) < 2) = false := decide_eq_false (by omega)
          clear hlt
          go_wp2
          all_goals first | (go_ret; exact ⟨0, Nat.zero_le _, rfl, by repeat (first | exact Drawn0.refl _ | apply Drawn0.step)⟩) | (go_ret; exact ⟨2, by have := HN.out; omega, rfl, by repeat (first | exact Drawn0.refl _ | apply Drawn0.step)⟩)
  · skip
    have t0 : decide (bt s 0 < 128) = false := decide_eq_false (by omega)
    have t1 : decide (194 ≤ bt s 0) = true := decide_eq_true (by omega)
    have t2 : decide (bt s 0 < 224) = false := decide_eq_false (by omega)
    have t3 : decide (224 ≤ bt s 0) = true := decide_eq_true (by omega)
    have t4 : decide (bt s 0 < 240) = true := decide_eq_true (by omega)
    have t5 : decide (240 ≤ bt s 0) = false := decide_eq_false (by omega)
    have t6 : decide (bt s 0 < 245) = true := decide_eq_true (by omega)
    clear hr h0
    by_cases hn : s.size < 3
    · have hnb : decide ((s.size : Int) < 3) = true := decide_eq_true (by omega)
      have HN := Lib.hid hn; clear hn
      skip
      go_enter Tryd.func36, Tryd.ntmps36
      go_wp2
      go_ret
      exact ⟨0, Nat.zero_le _, rfl, by repeat (first | exact Drawn0.refl _ | apply Drawn0.step)⟩
    · have hnb : decide ((s.size : Int) < 3) = false := decide_eq_false (by omega)
      have HN := Lib.hid hn; clear hn
      skip
      go_enter Tryd.func36, Tryd.ntmps36
      go_wp2
      go_loopg [3, 6] 2 (fun gk v3 v6 w' => RS 3 gk v3 v6 ∧ Drawn0 w w')
      case atStart => exact ⟨⟨_, 1, rfl, by omega, rfl, rfl⟩, by repeat (first | exact Drawn0.refl _ | apply Drawn0.step)⟩
      case round =>
        obtain ⟨⟨x, i, hg, hi, rfl, rfl⟩, ⟨nw, rfl⟩⟩ := hrel
        have HG := Lib.hid hg; clear hg
        by_cases hlt : i < 3
        · have his : i < s.size := by have := HN.out; omega
          have hd : decide ((i : Int) < 3) = true := decide_eq_true (by omega)
          have hx : ∀ h : i < s.size, ((s[i]'h).toNat : Int) = bt s i := bt_at s i
          have qi : ((i : Int) < s.size) = True := eq_true (by omega)
          have q : (i < s.size) = True := eq_true his
          have c0 := (bt_range s i).1
          have c1 := (bt_range s i).2
          have HL := Lib.hid hlt; clear hlt his
          go_wp2
          all_goals first
            | (go_roundg (3 - (i + 1))
               case measure => have := HL.out; have := HG.out; omega
               case rel => exact ⟨⟨_, i + 1, rfl, HL.out, rfl, by go_num⟩, by repeat (first | exact Drawn0.refl _ | apply Drawn0.step)⟩)
            | (go_ret; exact ⟨0, Nat.zero_le _, rfl, by repeat (first | exact Drawn0.refl _ | apply Drawn0.step)⟩)
        · have hd : decide ((i : Int) < 3) = false := decide_eq_false (by omega)
          clear hlt
          go_wp2
          all_goals first | (go_ret; exact ⟨0, Nat.zero_le _, rfl, by repeat (first | exact Drawn0.refl _ | apply Drawn0.step)⟩) | (go_ret; exact ⟨3, by have := HN.out; omega, rfl, by repeat (first | exact Drawn0.refl _ | apply Drawn0.step)⟩)
  · skip
    have t0 : decide (bt s 0 < 128) = false := decide_eq_false (by omega)
    have t1 : decide (194 ≤ bt s 0) = true := decide_eq_true (by omega)
    have t2 : decide (bt s 0 < 224) = false := decide_eq_false (by omega)
    have t3 : decide (224 ≤ bt s 0) = true := decide_eq_true (by omega)
    have t4 : decide (bt s 0 < 240) = false := decide_eq_false (by omega)
    have t5 : decide (240 ≤ bt s 0) = true := decide_eq_true (by omega)
    have t6 : decide (bt s 0 < 245) = true := decide_eq_true (by omega)
    clear hr h0
    by_cases hn : s.size < 4
    · have hnb : decide ((s.size : Int) < 4) = true := decide_eq_true (by omega)
      have HN := Lib.hid hn; clear hn
      skip
      go_enter Tryd.func36, Tryd.ntmps36
      go_wp2
      go_ret
      exact ⟨0, Nat.zero_le _, rfl, by repeat (first | exact Drawn0.refl _ | apply Drawn0.step)⟩
    · have hnb : decide ((s.size : Int) < 4) = false := decide_eq_false (by omega)
      have HN := Lib.hid hn; clear hn
      skip
      go_enter Tryd.func36, Tryd.ntmps36
      go_wp2
      go_loopg [3, 6] 3 (fun gk v3 v6 w' => RS 4 gk v3 v6 ∧ Drawn0 w w')
      case atStart => exact ⟨⟨_, 1, rfl, by omega, rfl, rfl⟩, by repeat (first | exact Drawn0.refl _ | apply Drawn0.step)⟩
      case round =>
        obtain ⟨⟨x, i, hg, hi, rfl, rfl⟩, ⟨nw, rfl⟩⟩ := hrel
        have HG := Lib.hid hg; clear hg
        by_cases hlt : i < 4
        · have his : i < s.size := by have := HN.out; omega
          have hd : decide ((i : Int) < 4) = true := decide_eq_true (by omega)
          have hx : ∀ h : i < s.size, ((s[i]'h).toNat : Int) = bt s i := bt_at s i
          have qi : ((i : Int) < s.size) = True := eq_true (by omega)
          have q : (i < s.size) = True := eq_true his
          have c0 := (bt_range s i).1
          have c1 := (bt_range s i).2
          have HL := Lib.hid hlt; clear hlt his
          go_wp2
          all_goals first
            | (go_roundg (4 - (i + 1))
               case measure => have := HL.out; have := HG.out; omega
               case rel => exact ⟨⟨_, i + 1, rfl, HL.out, rfl, by go_num⟩, by repeat (first | exact Drawn0.refl _ | apply Drawn0.step)⟩)
            | (go_ret; exact ⟨0, Nat.zero_le _, rfl, by repeat (first | exact Drawn0.refl _ | apply Drawn0.step)⟩)
        · have hd : decide ((i : Int) < 4) = false := decide_eq_false (by omega)
          clear hlt
          go_wp2
          all_goals first | (go_ret; exact ⟨0, Nat.zero_le _, rfl, by repeat (first | exact Drawn0.refl _ | apply Drawn0.step)⟩) | (go_ret; exact ⟨4, by have := HN.out; omega, rfl, by repeat (first | exact Drawn0.refl _ | apply Drawn0.step)⟩)
  · skip
    have t0 : decide (bt s 0 < 128) = false := decide_eq_false (by omega)
    have t1 : decide (194 ≤ bt s 0) = true := decide_eq_true (by omega)
    have t2 : decide (bt s 0 < 224) = false := decide_eq_false (by omega)
    have t3 : decide (224 ≤ bt s 0) = true := decide_eq_true (by omega)
    have t4 : decide (bt s 0 < 240) = false := decide_eq_false (by omega)
    have t5 : decide (240 ≤ bt s 0) = true := decide_eq_true (by omega)
    have t6 : decide (bt s 0 < 245) = false := decide_eq_false (by omega)
    clear hr h0
    go_enter Tryd.func36, Tryd.ntmps36
    go_wp2
    all_goals first | (go_ret; exact ⟨0, Nat.zero_le _, rfl, by repeat (first | exact Drawn0.refl _ | apply Drawn0.step)⟩) | (go_ret; exact ⟨1, H0.out, rfl, by repeat (first | exact Drawn0.refl _ | apply Drawn0.step)⟩)

set_option maxRecDepth 100000 in
theorem valid_any (s : ByteArray) (w : World) (hs : s.size ≤ 2147483647) : Calls Tryd.prog 30 #[.string s] w (SomeBool w) := by
  go_enter Tryd.func30, Tryd.ntmps30
  go_wp2
  go_loopg [3] s.size (fun gk v3 w' => RX s.size gk v3 ∧ Drawn0 w w')
  case atStart => exact ⟨⟨0, rfl, Nat.zero_le _, rfl⟩, Drawn0.refl _⟩
  case round =>
    obtain ⟨⟨i, hg, hi, rfl⟩, ⟨nw, rfl⟩⟩ := hrel
    have HG := Lib.hid hg; clear hg
    by_cases hlt : i < s.size
    · have hz : (s.extract i s.size).size = s.size - i := by simp
      have qi : ((i : Int) < s.size) = True := eq_true (by omega)
      have ql : (i ≤ s.size) = True := eq_true hi
      have qli : ((i : Int) ≤ s.size) = True := eq_true (by omega)
      have c36 := fun w => size_any (s.extract i s.size) w (by omega) (by omega)
      rw [hz] at c36
      have hib : i ≤ 2147483647 := by omega
      have HL := Lib.hid hlt; clear hlt hz
      go_wp2_with (first | (go_at_call 36; refine (c36 _).mono ?_; rintro e w' ⟨n, hn, rfl, ⟨nd3, rfl⟩⟩; have hnb : n ≤ 2147483647 := by omega))
      · go_ret
        exact ⟨_, rfl, by repeat (first | exact Drawn0.refl _ | apply Drawn0.step)⟩
      · have hn0 : ((n : Int) == 0) = false := by assumption
        have hn1 : n ≠ 0 := fun e => by rw [e] at hn0; simp at hn0
        go_roundg (s.size - (i + n))
        case measure => have := HL.out; have := HG.out; omega
        case rel => exact ⟨⟨i + n, rfl, by have := HL.out; omega, by go_num⟩, by repeat (first | exact Drawn0.refl _ | apply Drawn0.step)⟩
    · have qi : ((i : Int) < s.size) = False := eq_false (by omega)
      have q : (i < s.size) = False := eq_false hlt
      clear hlt
      go_wp2
      go_ret
      exact ⟨_, rfl, by repeat (first | exact Drawn0.refl _ | apply Drawn0.step)⟩

end Go.Proofs.YtjalihaidhkofaaDoor.Hand
