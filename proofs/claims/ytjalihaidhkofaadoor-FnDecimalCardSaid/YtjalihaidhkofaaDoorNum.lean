/- The walk of the reference's Number at every text: the number at its beginning. -/
import Derived.Test.YtjalihaidhkofaaDoorBase
import Derived.Test.YtjalihaidhkofaaDoorCons
namespace Go.Proofs.YtjalihaidhkofaaDoor.Hand
open Go.RowKit
open Go.Proofs.YtjalihaidhkofaaDoor

set_option maxRecDepth 100000 in
theorem digit_yes (c : Int) (w : World) (h0 : 48 ≤ c) (h1 : c ≤ 57) : Calls Tryd.prog 14 #[.int .u8 c] w fun e w' => e = .returned (.bool true) ∧ Drawn0 w w' := by
  have d0 : decide (48 ≤ c) = true := decide_eq_true h0
  have d1 : decide (c ≤ 57) = true := decide_eq_true h1
  go_enter Tryd.func14, Tryd.ntmps14
  go_wp2
  go_ret
  exact ⟨rfl, Drawn0.refl _⟩
set_option maxRecDepth 100000 in
theorem digit_no (c : Int) (w : World) (h : c < 48 ∨ 57 < c) : Calls Tryd.prog 14 #[.int .u8 c] w fun e w' => e = .returned (.bool false) ∧ Drawn0 w w' := by
  rcases h with h | h
  · have d0 : decide (48 ≤ c) = false := decide_eq_false (by omega)
    go_enter Tryd.func14, Tryd.ntmps14
    go_wp2
    go_ret
    exact ⟨rfl, Drawn0.refl _⟩
  · have d0 : decide (48 ≤ c) = true := decide_eq_true (by omega)
    have d1 : decide (c ≤ 57) = false := decide_eq_false (by omega)
    go_enter Tryd.func14, Tryd.ntmps14
    go_wp2
    go_ret
    exact ⟨rfl, Drawn0.refl _⟩

set_option maxRecDepth 100000 in
/-- number: the text ends where it should begin. -/
theorem number_none (t : ByteArray) (o p : Int) (w : World) (h : (t.size : Int) = o) :
    Calls Tryd.prog 26 #[.string t, .int .i64 o, .int .i64 p] w fun e w' => e = .returned (.tuple #[.string ⟨#[]⟩, .bool false, .bool false]) ∧ Drawn0 w w' := by
  have h1 : ((t.size : Int) == o) = true := beq_iff_eq.mpr h
  clear h
  go_enter Tryd.func26, Tryd.ntmps26
  go_wp2
  go_ret3
  exact ⟨rfl, Drawn0.refl _⟩
set_option maxRecDepth 100000 in
/-- number: an integer. -/
theorem number_int (t : ByteArray) (o : Int) (w : World) (hs : t.size ≤ 2147483647) (h : (t.size : Int) ≠ o) (h0 : 0 < t.size) :
    Calls Tryd.prog 26 #[.string t, .int .i64 o, .int .i64 (-1)] w fun e w' => e = .returned (.tuple #[.string t, .bool false, .bool true]) ∧ Drawn0 w w' := by
  have h1 : ((t.size : Int) == o) = false := beq_eq_false_iff_ne.mpr h
  have h2 : ((-1 : Int) == (t.size : Int) - 1) = false := beq_eq_false_iff_ne.mpr (by omega)
  clear h
  go_enter Tryd.func26, Tryd.ntmps26
  go_wp2
  go_ret3
  exact ⟨rfl, Drawn0.refl _⟩
set_option maxRecDepth 100000 in
/-- number: a dot with nothing or too much behind it. -/
theorem number_bad (t : ByteArray) (o : Int) (j : Nat) (w : World) (hs : t.size ≤ 2147483647) (h : (t.size : Int) ≠ o) (hj : j < t.size) (hb : t.size = j + 1 ∨ 3 < t.size - j - 1) :
    Calls Tryd.prog 26 #[.string t, .int .i64 o, .int .i64 (j : Nat)] w fun e w' => e = .returned (.tuple #[.string ⟨#[]⟩, .bool false, .bool false]) ∧ Drawn0 w w' := by
  have h1 : ((t.size : Int) == o) = false := beq_eq_false_iff_ne.mpr h
  have hjb : j ≤ 2147483647 := by omega
  have h0 : decide (0 ≤ (j : Int)) = true := decide_eq_true (by omega)
  by_cases e : t.size = j + 1
  · have h2 : ((j : Int) == (t.size : Int) - 1) = true := beq_iff_eq.mpr (by omega)
    clear h hb e
    go_enter Tryd.func26, Tryd.ntmps26
    go_wp2
    go_ret3
    exact ⟨rfl, Drawn0.refl _⟩
  · have h2 : ((j : Int) == (t.size : Int) - 1) = false := beq_eq_false_iff_ne.mpr (by omega)
    have h3 : decide (3 < (t.size : Int) - j - 1) = true := decide_eq_true (by omega)
    clear h hb e
    go_enter Tryd.func26, Tryd.ntmps26
    go_wp2
    go_ret3
    exact ⟨rfl, Drawn0.refl _⟩
set_option maxRecDepth 100000 in
/-- number: a decimal. -/
theorem number_dec (t : ByteArray) (o : Int) (j : Nat) (w : World) (hs : t.size ≤ 2147483647) (h : (t.size : Int) ≠ o) (hj : j + 1 < t.size) (hb : t.size - j - 1 ≤ 3) :
    Calls Tryd.prog 26 #[.string t, .int .i64 o, .int .i64 (j : Nat)] w fun e w' => e = .returned (.tuple #[.string t, .bool true, .bool true]) ∧ Drawn0 w w' := by
  have h1 : ((t.size : Int) == o) = false := beq_eq_false_iff_ne.mpr h
  have hjb : j ≤ 2147483647 := by omega
  have h0 : decide (0 ≤ (j : Int)) = true := decide_eq_true (by omega)
  have h2 : ((j : Int) == (t.size : Int) - 1) = false := beq_eq_false_iff_ne.mpr (by omega)
  have h3 : decide (3 < (t.size : Int) - j - 1) = false := decide_eq_false (by omega)
  clear h
  go_enter Tryd.func26, Tryd.ntmps26
  go_wp2
  go_ret3
  exact ⟨rfl, Drawn0.refl _⟩

/-- What Number answers where the digits end at j and, behind a dot at j, at k: the text, whether it is a decimal, whether it is a number. -/
def outN (s : ByteArray) (o j k : Nat) : ByteArray × Bool × Bool :=
  if (j < s.size ∧ bt s j = 46) ∧ o < j then
    if 12 < j - o ∨ 16 < k - o ∨ k = j + 1 ∨ 3 < k - j - 1 then (⟨#[]⟩, false, false) else (s.extract 0 k, true, true)
  else if j = o ∨ 15 < j - o then (⟨#[]⟩, false, false) else (s.extract 0 j, false, true)
theorem outN_fail_dot {s : ByteArray} {o j k : Nat} (h0 : (j < s.size ∧ bt s j = 46) ∧ o < j) (h : 12 < j - o ∨ 16 < k - o ∨ k = j + 1 ∨ 3 < k - j - 1) : outN s o j k = (⟨#[]⟩, false, false) := by
  rw [outN, if_pos h0, if_pos h]
theorem outN_ok_dot {s : ByteArray} {o j k : Nat} (h0 : (j < s.size ∧ bt s j = 46) ∧ o < j) (h : ¬ (12 < j - o ∨ 16 < k - o ∨ k = j + 1 ∨ 3 < k - j - 1)) : outN s o j k = (s.extract 0 k, true, true) := by
  rw [outN, if_pos h0, if_neg h]
theorem outN_fail_int {s : ByteArray} {o j k : Nat} (h0 : ¬ ((j < s.size ∧ bt s j = 46) ∧ o < j)) (h : j = o ∨ 15 < j - o) : outN s o j k = (⟨#[]⟩, false, false) := by
  rw [outN, if_neg h0, if_pos h]
theorem outN_ok_int {s : ByteArray} {o j k : Nat} (h0 : ¬ ((j < s.size ∧ bt s j = 46) ∧ o < j)) (h : ¬ (j = o ∨ 15 < j - o)) : outN s o j k = (s.extract 0 j, false, true) := by
  rw [outN, if_neg h0, if_neg h]
theorem outN_long {s : ByteArray} {o j k : Nat} (h : 15 < j - o) : outN s o j k = (⟨#[]⟩, false, false) := by
  by_cases h0 : (j < s.size ∧ bt s j = 46) ∧ o < j
  · exact outN_fail_dot h0 (Or.inl (by omega))
  · exact outN_fail_int h0 (Or.inr h)

/-- What holds at the head of Number's loop; gk rounds are to come. -/
def RN (s : ByteArray) (o j k gk : Nat) (v5 v7 : Value) : Prop :=
  ∃ i : Nat, gk = s.size - i ∧ v5 = .int .i64 (i : Nat) ∧
    ((v7 = .int .i64 (-1) ∧ o ≤ i ∧ i ≤ j ∧ i - o ≤ 15) ∨ (v7 = .int .i64 (j : Nat) ∧ o < j ∧ j < i ∧ i ≤ k ∧ j < s.size ∧ bt s j = 46 ∧ j - o ≤ 12 ∧ i - o ≤ 16))

set_option maxHeartbeats 4000000 in
set_option maxRecDepth 100000 in
theorem number_plus (s : ByteArray) (j k : Nat) (w : World) (hs : s.size ≤ 2147483647) (hne : bt s 0 ≠ 45) (h0 : 0 < s.size) (r1 : Run s 0 j) (r2 : j < s.size → Run s (j + 1) k) :
    Calls Tryd.prog 15 #[.string s] w fun e w' => e = .returned (.tuple #[.string (outN s 0 j k).1, .bool (outN s 0 j k).2.1, .bool (outN s 0 j k).2.2]) ∧ Drawn0 w w' := by
  obtain ⟨hoj, hjs, hd, hst⟩ := r1
  have hx0 : ∀ h : 0 < s.size, ((s[0]'h).toNat : Int) = bt s 0 := bt_at s 0
  have n0 : (bt s 0 == 45) = false := beq_eq_false_iff_ne.mpr hne
  clear hne
  have hi0 : ((0 : Int) < s.size) = True := eq_true (by omega)
  have hd0 : (0 < s.size) = True := eq_true (by omega)
  have hem : s.toList ≠ [] := by
    rw [ByteArray.toList_eq]; intro e
    have : s.data.toList.length = s.size := by simp
    rw [e] at this; simp at this; omega
  have e1 : (s.toList == ([] : List UInt8)) = false := beq_eq_false_iff_ne.mpr hem
  have e2 : (s.toList != ([] : List UInt8)) = true := bne_iff_ne.mpr hem
  have e3 : s.toList.isEmpty = false := by cases e : s.toList with | nil => exact absurd e hem | cons a l => rfl
  have e4 : (!s.toList.isEmpty) = true := by rw [e3]; rfl
  clear hem h0
  have HD := Lib.hid hd; clear hd
  have HST := Lib.hid hst; clear hst
  have HR := Lib.hid r2; clear r2
  have HOJ := Lib.hid hoj; clear hoj
  have HJS := Lib.hid hjs; clear hjs
  go_enter Tryd.func15, Tryd.ntmps15
  go_wp2
  go_loopg [5, 7] s.size (fun gk v5 v7 w' => RN s 0 j k gk v5 v7 ∧ Drawn0 w w')
  case atStart => exact ⟨⟨0, rfl, rfl, Or.inl ⟨rfl, Nat.le_refl _, HOJ.out, by omega⟩⟩, by repeat (first | exact Drawn0.refl _ | apply Drawn0.step)⟩
  case round =>
    clear hx0 n0 hi0 hd0 e1 e2 e3 e4
    obtain ⟨⟨i, hg, rfl, hA | hB⟩, ⟨nw, rfl⟩⟩ := hrel
    · obtain ⟨rfl, hoi, hij, h15⟩ := hA
      have HG := Lib.hid hg; clear hg
      have hib : i ≤ 2147483647 := by have := HJS.out; omega
      by_cases hlt : i < j
      · have hd := HD.out i (by omega) hlt
        have his : i < s.size := by have := HJS.out; omega
        have hx : ∀ h : i < s.size, ((s[i]'h).toNat : Int) = bt s i := bt_at s i
        have qi : ((i : Int) < s.size) = True := eq_true (by omega)
        have q : (i < s.size) = True := eq_true his
        have ci := fun w => digit_yes (bt s i) w hd.1 hd.2
        clear hd
        have HIS := Lib.hid his; clear his
        have HL := Lib.hid hlt; clear hlt
        by_cases h16 : 15 < i + 1 - 0
        · have d1 : decide (15 < (i : Int) + 1) = true := decide_eq_true (by omega)
          have H16 := Lib.hid h16; clear h16
          go_wp2_with (first | (go_at_call 14; refine (ci _).mono ?_; rintro e w' ⟨rfl, ⟨nd, rfl⟩⟩))
          go_ret3
          exact ⟨by rw [outN_long (by have := H16.out; have := HL.out; omega)]; rfl, by repeat (first | exact Drawn0.refl _ | apply Drawn0.step)⟩
        · have d1 : decide (15 < (i : Int) + 1) = false := decide_eq_false (by omega)
          have d2 : decide (16 < (i : Int) + 1) = false := decide_eq_false (by omega)
          have H16 := Lib.hid h16; clear h16
          go_wp2_with (first | (go_at_call 14; refine (ci _).mono ?_; rintro e w' ⟨rfl, ⟨nd, rfl⟩⟩))
          go_roundg (s.size - (i + 1))
          case measure => have := HIS.out; have := HG.out; omega
          case rel => exact ⟨⟨i + 1, rfl, by go_num, Or.inl ⟨rfl, by omega, HL.out, by have := H16.out; omega⟩⟩, by repeat (first | exact Drawn0.refl _ | apply Drawn0.step)⟩
      · have hi : i = j := by omega
        subst hi
        clear hlt hij
        by_cases his : i < s.size
        · have hst := HST.out his
          have hx : ∀ h : i < s.size, ((s[i]'h).toNat : Int) = bt s i := bt_at s i
          have qi : ((i : Int) < s.size) = True := eq_true (by omega)
          have q : (i < s.size) = True := eq_true his
          have ci := fun w => digit_no (bt s i) w hst
          have hzz : (s.extract 0 i).size = i := by simp; omega
          clear hst
          have HIS := Lib.hid his; clear his
          by_cases hdot : bt s i = 46 ∧ 0 < i
          · have nb : (bt s i == 46) = true := beq_iff_eq.mpr hdot.1
            have no : decide ((0 : Int) < i) = true := decide_eq_true (by omega)
            have noN : decide (0 < i) = true := decide_eq_true hdot.2
            have HDOT := Lib.hid (show (i < s.size ∧ bt s i = 46) ∧ 0 < i from ⟨⟨HIS.out, hdot.1⟩, hdot.2⟩); clear hdot
            by_cases h12 : 12 < i - 0
            · have d12 : decide (12 < (i : Int)) = true := decide_eq_true (by omega)
              have H12 := Lib.hid h12; clear h12
              go_wp2_with (first | (go_at_call 14; refine (ci _).mono ?_; rintro e w' ⟨rfl, ⟨nd, rfl⟩⟩))
              go_ret3
              exact ⟨by rw [outN_fail_dot HDOT.out (Or.inl H12.out)]; rfl, by repeat (first | exact Drawn0.refl _ | apply Drawn0.step)⟩
            · have d12 : decide (12 < (i : Int)) = false := decide_eq_false (by omega)
              have d13 : decide ((i : Int) < 0) = false := decide_eq_false (by omega)
              have d14 : decide (16 < (i : Int) + 1) = false := decide_eq_false (by omega)
              have H12 := Lib.hid h12; clear h12
              go_wp2_with (first | (go_at_call 14; refine (ci _).mono ?_; rintro e w' ⟨rfl, ⟨nd, rfl⟩⟩))
              go_roundg (s.size - (i + 1))
              case measure => have := HIS.out; have := HG.out; omega
              case rel => exact ⟨⟨i + 1, rfl, by go_num, Or.inr ⟨rfl, HDOT.out.2, by omega, (HR.out HIS.out).le, HIS.out, HDOT.out.1.2, by have := H12.out; omega, by have := H12.out; omega⟩⟩, by repeat (first | exact Drawn0.refl _ | apply Drawn0.step)⟩
          · have HND := Lib.hid (show ¬ ((i < s.size ∧ bt s i = 46) ∧ 0 < i) from fun h => hdot ⟨h.1.2, h.2⟩)
            have hsl : (i ≤ s.size) = True := eq_true HJS.out
            have hsi : ((i : Int) ≤ s.size) = True := eq_true (by have := HJS.out; omega)
            by_cases hio : i = 0
            · have cn := fun w => number_none (s.extract 0 i) 0 (-1) w (by rw [hzz]; omega)
              have no : decide ((0 : Int) < (i : Int)) = false := decide_eq_false (by omega)
              have noN : decide (0 < i) = false := decide_eq_false (by omega)
              have hib2 : i ≤ 0 := by omega
              have HIO := Lib.hid hio; clear hio
              clear hdot hzz hoi h15
              go_wp2_with (first | (go_at_call 14; refine (ci _).mono ?_; rintro e w' ⟨rfl, ⟨nd, rfl⟩⟩) | (go_at_call 26; refine (cn _).mono ?_; rintro e w' ⟨rfl, ⟨nd2, rfl⟩⟩))
              all_goals
                go_ret3
                exact ⟨by rw [outN_fail_int HND.out (Or.inl HIO.out)]; rfl, by repeat (first | exact Drawn0.refl _ | apply Drawn0.step)⟩
            · have cn := fun w => number_int (s.extract 0 i) 0 w (by omega) (by rw [hzz]; omega) (by omega)
              have nb : (bt s i == 46) = false := beq_eq_false_iff_ne.mpr (fun e => hdot ⟨e, by omega⟩)
              have HN := Lib.hid (show ¬ (i = 0 ∨ 15 < i - 0) by omega)
              clear hdot hzz hio h15 hoi
              go_wp2_with (first | (go_at_call 14; refine (ci _).mono ?_; rintro e w' ⟨rfl, ⟨nd, rfl⟩⟩) | (go_at_call 26; refine (cn _).mono ?_; rintro e w' ⟨rfl, ⟨nd2, rfl⟩⟩))
              go_ret3
              exact ⟨by rw [outN_ok_int HND.out HN.out]; rfl, by repeat (first | exact Drawn0.refl _ | apply Drawn0.step)⟩
        · have HND := Lib.hid (show ¬ ((i < s.size ∧ bt s i = 46) ∧ 0 < i) from fun h => his h.1.1)
          have hie : i = s.size := by have := HJS.out; omega
          have qi : ((i : Int) < s.size) = False := eq_false (by omega)
          have q : (i < s.size) = False := eq_false his
          by_cases hio : i = 0
          · have cn := fun w => number_none s 0 (-1) w (by omega)
            clear his hie h15 hoi
            have HIO := Lib.hid hio; clear hio
            go_wp2_with (first | (go_at_call 26; refine (cn _).mono ?_; rintro e w' ⟨rfl, ⟨nd2, rfl⟩⟩))
            go_ret3
            exact ⟨by rw [outN_fail_int HND.out (Or.inl HIO.out)]; rfl, by repeat (first | exact Drawn0.refl _ | apply Drawn0.step)⟩
          · have cn := fun w => number_int s 0 w hs (by omega) (by omega)
            have hall : s.extract 0 i = s := by rw [hie]; simp
            have HALL := Lib.hid hall
            have HN := Lib.hid (show ¬ (i = 0 ∨ 15 < i - 0) by omega)
            clear his hie hall hio h15 hoi
            go_wp2_with (first | (go_at_call 26; refine (cn _).mono ?_; rintro e w' ⟨rfl, ⟨nd2, rfl⟩⟩))
            go_ret3
            exact ⟨by rw [outN_ok_int HND.out HN.out, HALL.out]; rfl, by repeat (first | exact Drawn0.refl _ | apply Drawn0.step)⟩
    · obtain ⟨rfl, hoj, hji, hik, hjs, hdot, h12, h16⟩ := hB
      have HG := Lib.hid hg; clear hg
      have hr := HR.out hjs
      have hib : i ≤ 2147483647 := by have := hr.size; omega
      have hjb : j ≤ 2147483647 := by omega
      have d13 : decide ((j : Int) < 0) = false := decide_eq_false (by omega)
      have HF := Lib.hid (show (((j < s.size ∧ bt s j = 46) ∧ 0 < j) ∧ j - 0 ≤ 12) ∧ j < i from ⟨⟨⟨⟨hjs, hdot⟩, hoj⟩, h12⟩, hji⟩)
      by_cases hlt : i < k
      · have hd := hr.dig i (by omega) hlt
        have his : i < s.size := by have := hr.size; omega
        have hx : ∀ h : i < s.size, ((s[i]'h).toNat : Int) = bt s i := bt_at s i
        have qi : ((i : Int) < s.size) = True := eq_true (by omega)
        have q : (i < s.size) = True := eq_true his
        have ci := fun w => digit_yes (bt s i) w hd.1 hd.2
        have HIS := Lib.hid his
        clear hd his hr
        have HL := Lib.hid hlt; clear hlt
        by_cases h17 : 16 < i + 1 - 0
        · have d1 : decide (16 < (i : Int) + 1) = true := decide_eq_true (by omega)
          have H17 := Lib.hid h17; clear h17
          clear hji hjs hdot h12 hik hoj h16
          go_wp2_with (first | (go_at_call 14; refine (ci _).mono ?_; rintro e w' ⟨rfl, ⟨nd, rfl⟩⟩))
          go_ret3
          exact ⟨by rw [outN_fail_dot HF.out.1.1 (Or.inr (Or.inl (by have := H17.out; have := HL.out; omega)))]; rfl, by repeat (first | exact Drawn0.refl _ | apply Drawn0.step)⟩
        · have d1 : decide (16 < (i : Int) + 1) = false := decide_eq_false (by omega)
          have H17 := Lib.hid h17; clear h17
          clear hji hjs hdot h12 hik hoj h16
          go_wp2_with (first | (go_at_call 14; refine (ci _).mono ?_; rintro e w' ⟨rfl, ⟨nd, rfl⟩⟩))
          go_roundg (s.size - (i + 1))
          case measure => have := HIS.out; have := HG.out; omega
          case rel => exact ⟨⟨i + 1, rfl, by go_num, Or.inr ⟨rfl, HF.out.1.1.2, by have := HF.out.2; omega, HL.out, HF.out.1.1.1.1, HF.out.1.1.1.2, HF.out.1.2, by have := H17.out; omega⟩⟩, by repeat (first | exact Drawn0.refl _ | apply Drawn0.step)⟩
      · have hi : i = k := by omega
        subst hi
        clear hlt hik
        have HRR := Lib.hid hr
        have hst := hr.stop
        have hsl : (i ≤ s.size) = True := eq_true hr.size
        have hsi : ((i : Int) ≤ s.size) = True := eq_true (by have := hr.size; omega)
        by_cases his : i < s.size
        · have hx : ∀ h : i < s.size, ((s[i]'h).toNat : Int) = bt s i := bt_at s i
          have qi : ((i : Int) < s.size) = True := eq_true (by omega)
          have q : (i < s.size) = True := eq_true his
          have ci := fun w => digit_no (bt s i) w (hst his)
          have hzz : (s.extract 0 i).size = i := by simp; omega
          by_cases hb : i = j + 1 ∨ 3 < i - j - 1
          · have cn := fun w => number_bad (s.extract 0 i) 0 j w (by omega) (by rw [hzz]; omega) (by omega) (by rw [hzz]; exact hb)
            have HB := Lib.hid hb
            clear hb hst his hr hji hjs hdot h12 hoj h16 hzz
            go_wp2_with (first | (go_at_call 14; refine (ci _).mono ?_; rintro e w' ⟨rfl, ⟨nd, rfl⟩⟩) | (go_at_call 26; refine (cn _).mono ?_; rintro e w' ⟨rfl, ⟨nd2, rfl⟩⟩))
            all_goals
              go_ret3
              exact ⟨by rw [outN_fail_dot HF.out.1.1 (Or.inr (Or.inr HB.out))]; rfl, by repeat (first | exact Drawn0.refl _ | apply Drawn0.step)⟩
          · have cn := fun w => number_dec (s.extract 0 i) 0 j w (by omega) (by rw [hzz]; omega) (by omega) (by rw [hzz]; omega)
            have HB := Lib.hid (show ¬ (12 < j - 0 ∨ 16 < i - 0 ∨ i = j + 1 ∨ 3 < i - j - 1) by omega)
            clear hb hst his hr hji hjs hdot h12 hoj h16 hzz
            go_wp2_with (first | (go_at_call 14; refine (ci _).mono ?_; rintro e w' ⟨rfl, ⟨nd, rfl⟩⟩) | (go_at_call 26; refine (cn _).mono ?_; rintro e w' ⟨rfl, ⟨nd2, rfl⟩⟩))
            all_goals
              go_ret3
              exact ⟨by rw [outN_ok_dot HF.out.1.1 HB.out]; rfl, by repeat (first | exact Drawn0.refl _ | apply Drawn0.step)⟩
        · have hie : i = s.size := by have := hr.size; omega
          have qi : ((i : Int) < s.size) = False := eq_false (by omega)
          have q : (i < s.size) = False := eq_false his
          by_cases hb : i = j + 1 ∨ 3 < i - j - 1
          · have cn := fun w => number_bad s 0 j w hs (by omega) (by omega) (by rw [← hie]; exact hb)
            have HB := Lib.hid hb
            clear hb hst his hie hr hji hjs hdot h12 hoj h16
            go_wp2_with (first | (go_at_call 26; refine (cn _).mono ?_; rintro e w' ⟨rfl, ⟨nd2, rfl⟩⟩))
            go_ret3
            exact ⟨by rw [outN_fail_dot HF.out.1.1 (Or.inr (Or.inr HB.out))]; rfl, by repeat (first | exact Drawn0.refl _ | apply Drawn0.step)⟩
          · have cn := fun w => number_dec s 0 j w hs (by omega) (by omega) (by omega)
            have hall : s.extract 0 i = s := by rw [hie]; simp
            have HALL := Lib.hid hall
            have HB := Lib.hid (show ¬ (12 < j - 0 ∨ 16 < i - 0 ∨ i = j + 1 ∨ 3 < i - j - 1) by omega)
            clear hb hst his hie hall hr hji hjs hdot h12 hoj h16
            go_wp2_with (first | (go_at_call 26; refine (cn _).mono ?_; rintro e w' ⟨rfl, ⟨nd2, rfl⟩⟩))
            go_ret3
            exact ⟨by rw [outN_ok_dot HF.out.1.1 HB.out, HALL.out]; rfl, by repeat (first | exact Drawn0.refl _ | apply Drawn0.step)⟩

set_option maxHeartbeats 4000000 in
set_option maxRecDepth 100000 in
theorem number_minus (s : ByteArray) (j k : Nat) (w : World) (hs : s.size ≤ 2147483647) (hm : bt s 0 = 45) (h0 : 0 < s.size) (r1 : Run s 1 j) (r2 : j < s.size → Run s (j + 1) k) :
    Calls Tryd.prog 15 #[.string s] w fun e w' => e = .returned (.tuple #[.string (outN s 1 j k).1, .bool (outN s 1 j k).2.1, .bool (outN s 1 j k).2.2]) ∧ Drawn0 w w' := by
  obtain ⟨hoj, hjs, hd, hst⟩ := r1
  have hx0 : ∀ h : 0 < s.size, ((s[0]'h).toNat : Int) = 45 := fun h => (bt_at s 0 h).trans hm
  have n0 : True := trivial
  clear hm
  have hi0 : ((0 : Int) < s.size) = True := eq_true (by omega)
  have hd0 : (0 < s.size) = True := eq_true (by omega)
  have hem : s.toList ≠ [] := by
    rw [ByteArray.toList_eq]; intro e
    have : s.data.toList.length = s.size := by simp
    rw [e] at this; simp at this; omega
  have e1 : (s.toList == ([] : List UInt8)) = false := beq_eq_false_iff_ne.mpr hem
  have e2 : (s.toList != ([] : List UInt8)) = true := bne_iff_ne.mpr hem
  have e3 : s.toList.isEmpty = false := by cases e : s.toList with | nil => exact absurd e hem | cons a l => rfl
  have e4 : (!s.toList.isEmpty) = true := by rw [e3]; rfl
  clear hem h0
  have HD := Lib.hid hd; clear hd
  have HST := Lib.hid hst; clear hst
  have HR := Lib.hid r2; clear r2
  have HOJ := Lib.hid hoj; clear hoj
  have HJS := Lib.hid hjs; clear hjs
  go_enter Tryd.func15, Tryd.ntmps15
  go_wp2
  go_loopg [5, 7] (s.size - 1) (fun gk v5 v7 w' => RN s 1 j k gk v5 v7 ∧ Drawn0 w w')
  case atStart => exact ⟨⟨1, rfl, rfl, Or.inl ⟨rfl, Nat.le_refl _, HOJ.out, by omega⟩⟩, by repeat (first | exact Drawn0.refl _ | apply Drawn0.step)⟩
  case round =>
    clear hx0 n0 hi0 hd0 e1 e2 e3 e4
    obtain ⟨⟨i, hg, rfl, hA | hB⟩, ⟨nw, rfl⟩⟩ := hrel
    · obtain ⟨rfl, hoi, hij, h15⟩ := hA
      have HG := Lib.hid hg; clear hg
      have hib : i ≤ 2147483647 := by have := HJS.out; omega
      by_cases hlt : i < j
      · have hd := HD.out i (by omega) hlt
        have his : i < s.size := by have := HJS.out; omega
        have hx : ∀ h : i < s.size, ((s[i]'h).toNat : Int) = bt s i := bt_at s i
        have qi : ((i : Int) < s.size) = True := eq_true (by omega)
        have q : (i < s.size) = True := eq_true his
        have ci := fun w => digit_yes (bt s i) w hd.1 hd.2
        clear hd
        have HIS := Lib.hid his; clear his
        have HL := Lib.hid hlt; clear hlt
        by_cases h16 : 15 < i + 1 - 1
        · have d1 : decide (15 < (i : Int)) = true := decide_eq_true (by omega)
          have H16 := Lib.hid h16; clear h16
          go_wp2_with (first | (go_at_call 14; refine (ci _).mono ?_; rintro e w' ⟨rfl, ⟨nd, rfl⟩⟩))
          go_ret3
          exact ⟨by rw [outN_long (by have := H16.out; have := HL.out; omega)]; rfl, by repeat (first | exact Drawn0.refl _ | apply Drawn0.step)⟩
        · have d1 : decide (15 < (i : Int)) = false := decide_eq_false (by omega)
          have d2 : decide (16 < (i : Int)) = false := decide_eq_false (by omega)
          have H16 := Lib.hid h16; clear h16
          go_wp2_with (first | (go_at_call 14; refine (ci _).mono ?_; rintro e w' ⟨rfl, ⟨nd, rfl⟩⟩))
          go_roundg (s.size - (i + 1))
          case measure => have := HIS.out; have := HG.out; omega
          case rel => exact ⟨⟨i + 1, rfl, by go_num, Or.inl ⟨rfl, by omega, HL.out, by have := H16.out; omega⟩⟩, by repeat (first | exact Drawn0.refl _ | apply Drawn0.step)⟩
      · have hi : i = j := by omega
        subst hi
        clear hlt hij
        by_cases his : i < s.size
        · have hst := HST.out his
          have hx : ∀ h : i < s.size, ((s[i]'h).toNat : Int) = bt s i := bt_at s i
          have qi : ((i : Int) < s.size) = True := eq_true (by omega)
          have q : (i < s.size) = True := eq_true his
          have ci := fun w => digit_no (bt s i) w hst
          have hzz : (s.extract 0 i).size = i := by simp; omega
          clear hst
          have HIS := Lib.hid his; clear his
          by_cases hdot : bt s i = 46 ∧ 1 < i
          · have nb : (bt s i == 46) = true := beq_iff_eq.mpr hdot.1
            have no : decide ((1 : Int) < i) = true := decide_eq_true (by omega)
            have noN : decide (1 < i) = true := decide_eq_true hdot.2
            have HDOT := Lib.hid (show (i < s.size ∧ bt s i = 46) ∧ 1 < i from ⟨⟨HIS.out, hdot.1⟩, hdot.2⟩); clear hdot
            by_cases h12 : 12 < i - 1
            · have d12 : decide (12 < (i : Int) - 1) = true := decide_eq_true (by omega)
              have H12 := Lib.hid h12; clear h12
              go_wp2_with (first | (go_at_call 14; refine (ci _).mono ?_; rintro e w' ⟨rfl, ⟨nd, rfl⟩⟩))
              go_ret3
              exact ⟨by rw [outN_fail_dot HDOT.out (Or.inl H12.out)]; rfl, by repeat (first | exact Drawn0.refl _ | apply Drawn0.step)⟩
            · have d12 : decide (12 < (i : Int) - 1) = false := decide_eq_false (by omega)
              have d13 : decide ((i : Int) < 0) = false := decide_eq_false (by omega)
              have d14 : decide (16 < (i : Int)) = false := decide_eq_false (by omega)
              have H12 := Lib.hid h12; clear h12
              go_wp2_with (first | (go_at_call 14; refine (ci _).mono ?_; rintro e w' ⟨rfl, ⟨nd, rfl⟩⟩))
              go_roundg (s.size - (i + 1))
              case measure => have := HIS.out; have := HG.out; omega
              case rel => exact ⟨⟨i + 1, rfl, by go_num, Or.inr ⟨rfl, HDOT.out.2, by omega, (HR.out HIS.out).le, HIS.out, HDOT.out.1.2, by have := H12.out; omega, by have := H12.out; omega⟩⟩, by repeat (first | exact Drawn0.refl _ | apply Drawn0.step)⟩
          · have HND := Lib.hid (show ¬ ((i < s.size ∧ bt s i = 46) ∧ 1 < i) from fun h => hdot ⟨h.1.2, h.2⟩)
            have hsl : (i ≤ s.size) = True := eq_true HJS.out
            have hsi : ((i : Int) ≤ s.size) = True := eq_true (by have := HJS.out; omega)
            by_cases hio : i = 1
            · have cn := fun w => number_none (s.extract 0 i) 1 (-1) w (by rw [hzz]; omega)
              have no : decide ((1 : Int) < (i : Int)) = false := decide_eq_false (by omega)
              have noN : decide (1 < i) = false := decide_eq_false (by omega)
              have hib2 : i ≤ 1 := by omega
              have HIO := Lib.hid hio; clear hio
              clear hdot hzz hoi h15
              go_wp2_with (first | (go_at_call 14; refine (ci _).mono ?_; rintro e w' ⟨rfl, ⟨nd, rfl⟩⟩) | (go_at_call 26; refine (cn _).mono ?_; rintro e w' ⟨rfl, ⟨nd2, rfl⟩⟩))
              all_goals
                go_ret3
                exact ⟨by rw [outN_fail_int HND.out (Or.inl HIO.out)]; rfl, by repeat (first | exact Drawn0.refl _ | apply Drawn0.step)⟩
            · have cn := fun w => number_int (s.extract 0 i) 1 w (by omega) (by rw [hzz]; omega) (by omega)
              have nb : (bt s i == 46) = false := beq_eq_false_iff_ne.mpr (fun e => hdot ⟨e, by omega⟩)
              have HN := Lib.hid (show ¬ (i = 1 ∨ 15 < i - 1) by omega)
              clear hdot hzz hio h15 hoi
              go_wp2_with (first | (go_at_call 14; refine (ci _).mono ?_; rintro e w' ⟨rfl, ⟨nd, rfl⟩⟩) | (go_at_call 26; refine (cn _).mono ?_; rintro e w' ⟨rfl, ⟨nd2, rfl⟩⟩))
              go_ret3
              exact ⟨by rw [outN_ok_int HND.out HN.out]; rfl, by repeat (first | exact Drawn0.refl _ | apply Drawn0.step)⟩
        · have HND := Lib.hid (show ¬ ((i < s.size ∧ bt s i = 46) ∧ 1 < i) from fun h => his h.1.1)
          have hie : i = s.size := by have := HJS.out; omega
          have qi : ((i : Int) < s.size) = False := eq_false (by omega)
          have q : (i < s.size) = False := eq_false his
          by_cases hio : i = 1
          · have cn := fun w => number_none s 1 (-1) w (by omega)
            clear his hie h15 hoi
            have HIO := Lib.hid hio; clear hio
            go_wp2_with (first | (go_at_call 26; refine (cn _).mono ?_; rintro e w' ⟨rfl, ⟨nd2, rfl⟩⟩))
            go_ret3
            exact ⟨by rw [outN_fail_int HND.out (Or.inl HIO.out)]; rfl, by repeat (first | exact Drawn0.refl _ | apply Drawn0.step)⟩
          · have cn := fun w => number_int s 1 w hs (by omega) (by omega)
            have hall : s.extract 0 i = s := by rw [hie]; simp
            have HALL := Lib.hid hall
            have HN := Lib.hid (show ¬ (i = 1 ∨ 15 < i - 1) by omega)
            clear his hie hall hio h15 hoi
            go_wp2_with (first | (go_at_call 26; refine (cn _).mono ?_; rintro e w' ⟨rfl, ⟨nd2, rfl⟩⟩))
            go_ret3
            exact ⟨by rw [outN_ok_int HND.out HN.out, HALL.out]; rfl, by repeat (first | exact Drawn0.refl _ | apply Drawn0.step)⟩
    · obtain ⟨rfl, hoj, hji, hik, hjs, hdot, h12, h16⟩ := hB
      have HG := Lib.hid hg; clear hg
      have hr := HR.out hjs
      have hib : i ≤ 2147483647 := by have := hr.size; omega
      have hjb : j ≤ 2147483647 := by omega
      have d13 : decide ((j : Int) < 0) = false := decide_eq_false (by omega)
      have HF := Lib.hid (show (((j < s.size ∧ bt s j = 46) ∧ 1 < j) ∧ j - 1 ≤ 12) ∧ j < i from ⟨⟨⟨⟨hjs, hdot⟩, hoj⟩, h12⟩, hji⟩)
      by_cases hlt : i < k
      · have hd := hr.dig i (by omega) hlt
        have his : i < s.size := by have := hr.size; omega
        have hx : ∀ h : i < s.size, ((s[i]'h).toNat : Int) = bt s i := bt_at s i
        have qi : ((i : Int) < s.size) = True := eq_true (by omega)
        have q : (i < s.size) = True := eq_true his
        have ci := fun w => digit_yes (bt s i) w hd.1 hd.2
        have HIS := Lib.hid his
        clear hd his hr
        have HL := Lib.hid hlt; clear hlt
        by_cases h17 : 16 < i + 1 - 1
        · have d1 : decide (16 < (i : Int)) = true := decide_eq_true (by omega)
          have H17 := Lib.hid h17; clear h17
          clear hji hjs hdot h12 hik hoj h16
          go_wp2_with (first | (go_at_call 14; refine (ci _).mono ?_; rintro e w' ⟨rfl, ⟨nd, rfl⟩⟩))
          go_ret3
          exact ⟨by rw [outN_fail_dot HF.out.1.1 (Or.inr (Or.inl (by have := H17.out; have := HL.out; omega)))]; rfl, by repeat (first | exact Drawn0.refl _ | apply Drawn0.step)⟩
        · have d1 : decide (16 < (i : Int)) = false := decide_eq_false (by omega)
          have H17 := Lib.hid h17; clear h17
          clear hji hjs hdot h12 hik hoj h16
          go_wp2_with (first | (go_at_call 14; refine (ci _).mono ?_; rintro e w' ⟨rfl, ⟨nd, rfl⟩⟩))
          go_roundg (s.size - (i + 1))
          case measure => have := HIS.out; have := HG.out; omega
          case rel => exact ⟨⟨i + 1, rfl, by go_num, Or.inr ⟨rfl, HF.out.1.1.2, by have := HF.out.2; omega, HL.out, HF.out.1.1.1.1, HF.out.1.1.1.2, HF.out.1.2, by have := H17.out; omega⟩⟩, by repeat (first | exact Drawn0.refl _ | apply Drawn0.step)⟩
      · have hi : i = k := by omega
        subst hi
        clear hlt hik
        have HRR := Lib.hid hr
        have hst := hr.stop
        have hsl : (i ≤ s.size) = True := eq_true hr.size
        have hsi : ((i : Int) ≤ s.size) = True := eq_true (by have := hr.size; omega)
        by_cases his : i < s.size
        · have hx : ∀ h : i < s.size, ((s[i]'h).toNat : Int) = bt s i := bt_at s i
          have qi : ((i : Int) < s.size) = True := eq_true (by omega)
          have q : (i < s.size) = True := eq_true his
          have ci := fun w => digit_no (bt s i) w (hst his)
          have hzz : (s.extract 0 i).size = i := by simp; omega
          by_cases hb : i = j + 1 ∨ 3 < i - j - 1
          · have cn := fun w => number_bad (s.extract 0 i) 1 j w (by omega) (by rw [hzz]; omega) (by omega) (by rw [hzz]; exact hb)
            have HB := Lib.hid hb
            clear hb hst his hr hji hjs hdot h12 hoj h16 hzz
            go_wp2_with (first | (go_at_call 14; refine (ci _).mono ?_; rintro e w' ⟨rfl, ⟨nd, rfl⟩⟩) | (go_at_call 26; refine (cn _).mono ?_; rintro e w' ⟨rfl, ⟨nd2, rfl⟩⟩))
            all_goals
              go_ret3
              exact ⟨by rw [outN_fail_dot HF.out.1.1 (Or.inr (Or.inr HB.out))]; rfl, by repeat (first | exact Drawn0.refl _ | apply Drawn0.step)⟩
          · have cn := fun w => number_dec (s.extract 0 i) 1 j w (by omega) (by rw [hzz]; omega) (by omega) (by rw [hzz]; omega)
            have HB := Lib.hid (show ¬ (12 < j - 1 ∨ 16 < i - 1 ∨ i = j + 1 ∨ 3 < i - j - 1) by omega)
            clear hb hst his hr hji hjs hdot h12 hoj h16 hzz
            go_wp2_with (first | (go_at_call 14; refine (ci _).mono ?_; rintro e w' ⟨rfl, ⟨nd, rfl⟩⟩) | (go_at_call 26; refine (cn _).mono ?_; rintro e w' ⟨rfl, ⟨nd2, rfl⟩⟩))
            all_goals
              go_ret3
              exact ⟨by rw [outN_ok_dot HF.out.1.1 HB.out]; rfl, by repeat (first | exact Drawn0.refl _ | apply Drawn0.step)⟩
        · have hie : i = s.size := by have := hr.size; omega
          have qi : ((i : Int) < s.size) = False := eq_false (by omega)
          have q : (i < s.size) = False := eq_false his
          by_cases hb : i = j + 1 ∨ 3 < i - j - 1
          · have cn := fun w => number_bad s 1 j w hs (by omega) (by omega) (by rw [← hie]; exact hb)
            have HB := Lib.hid hb
            clear hb hst his hie hr hji hjs hdot h12 hoj h16
            go_wp2_with (first | (go_at_call 26; refine (cn _).mono ?_; rintro e w' ⟨rfl, ⟨nd2, rfl⟩⟩))
            go_ret3
            exact ⟨by rw [outN_fail_dot HF.out.1.1 (Or.inr (Or.inr HB.out))]; rfl, by repeat (first | exact Drawn0.refl _ | apply Drawn0.step)⟩
          · have cn := fun w => number_dec s 1 j w hs (by omega) (by omega) (by omega)
            have hall : s.extract 0 i = s := by rw [hie]; simp
            have HALL := Lib.hid hall
            have HB := Lib.hid (show ¬ (12 < j - 1 ∨ 16 < i - 1 ∨ i = j + 1 ∨ 3 < i - j - 1) by omega)
            clear hb hst his hie hall hr hji hjs hdot h12 hoj h16
            go_wp2_with (first | (go_at_call 26; refine (cn _).mono ?_; rintro e w' ⟨rfl, ⟨nd2, rfl⟩⟩))
            go_ret3
            exact ⟨by rw [outN_ok_dot HF.out.1.1 HB.out, HALL.out]; rfl, by repeat (first | exact Drawn0.refl _ | apply Drawn0.step)⟩

end Go.Proofs.YtjalihaidhkofaaDoor.Hand
