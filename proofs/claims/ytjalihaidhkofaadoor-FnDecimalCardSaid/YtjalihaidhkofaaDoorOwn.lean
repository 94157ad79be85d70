/- Totality walks of quoted and display: texts gathered byte by byte. -/
import Derived.Test.YtjalihaidhkofaaDoorTot
import Derived.Laws.BytesArg
namespace Go.Proofs.YtjalihaidhkofaaDoor.Hand
open Go.RowKit
open Go.Proofs.YtjalihaidhkofaaDoor

theorem info5 : (Tryd.prog.info? 5).map (fun i => (i.zero, i.size, i.bytes)) = some (some (.int .u8 0), 1, 1) := by kernel_rfl

/-- The slice value v owns n bytes in a row of the call's own (blocks from B on). -/
def Bytes (W : World) (B : Nat) (v : Value) (n : Nat) : Prop := ∃ xs : List Int, xs.length = n ∧ W.ownsRow B 5 1 v n (xs.map (Value.int .u8))

theorem Bytes.nil (W : World) (B : Nat) : Bytes W B (.slice none 0 0) 0 := ⟨[], rfl, World.ownsRow_nil W B 5 1⟩
theorem Bytes.drewN {W : World} {B : Nat} {v : Value} {n : Nat} (h : Bytes W B v n) (m : Nat) : Bytes (W.drewN m) B v n := by
  obtain ⟨xs, hl, ho⟩ := h
  exact ⟨xs, hl, ho⟩
theorem Below.drewN' {B : Nat} {w W : World} (h : Below B w W) (n : Nat) : Below B w (W.drewN n) := ⟨h.os, h.tape, h.output, h.size, h.block⟩

/-- The text of such a slice. -/
theorem Bytes.text {W : World} {B : Nat} {v : Value} {n : Nat} (h : Bytes W B v n) : ∃ t : ByteArray, t.size = n ∧ ∀ m, (convert 48 9 v).run Tryd.prog (W.drewN m) = .ok (.string t) (W.drewN m) := by
  obtain ⟨xs, hl, ho⟩ := h
  rcases ho.2 with ⟨rfl, rfl⟩ | ⟨g, cap, cur, rfl, _⟩
  · exact ⟨ByteArray.empty, rfl, fun m => run_convert_bytes_nil (W.drewN m) 48 5 Tryd.underlying48 Tryd.underlying5 0 0 9 Tryd.underlying9⟩
  · refine ⟨strOfNums xs, by rw [← hl]; show (List.map (fun n : Int => UInt8.ofNat n.toNat) xs).toArray.size = xs.length; simp, fun m => run_convert_bytes_arg (W.drewN m) 48 5 Tryd.underlying48 Tryd.underlying5 g 0 n cap xs hl (fun i hi => ?_) 9 Tryd.underlying9⟩
    have ho' : (W.drewN m).ownsRow B 5 1 (Value.slice (some ⟨g, 0, none⟩) n cap) n (xs.map (Value.int .u8)) := ho
    have hx := ho'.cells (g := g) rfl i (.int .u8 (xs.getD i 0)) (by simp [List.getElem?_eq_getElem (show i < xs.length by omega), List.getD_eq_getElem?_getD])
    have ha : (⟨g, 0, none⟩ : Addr).add i = ⟨g, 0 + i, none⟩ := by unfold Addr.add; split <;> simp_all
    rwa [ha] at hx

section
variable {ops : Array Oper} {rest : List Oper} {o : Oper} {a : Act} {Q : Exit → Act → World → Prop}
/-- 'out = append(out, c)': one byte more; what is not the slice's own stays. -/
theorem append_byte {W w : World} {B n : Nat} {v : Value} (hown : Bytes W B v n) (hbel : Below B w W) (hgd : o.guard = none) (s x : Operand)
    (ho : o.op = .call { callee := .builtin .append, args := #[s, x], argTypes := #[48, 48] }) (hs : a.eval s = v) (c : Int)
    (hx : a.eval x = .slice (some ⟨W.heap.size, 0, none⟩) 1 1) (hn : n ≤ 4294967296) (hB : B ≤ W.heap.size)
    (h : ∀ v' w', Bytes w' B v' (n + 1) → Below B w w' → B ≤ w'.heap.size → wpList Tryd.prog ops Q rest (a.put o.dst v') w') :
    wpList Tryd.prog ops Q (o :: rest) a (W.alloc (.cells #[.int .u8 c] 5)) := by
  obtain ⟨xs, hl, hr⟩ := hown
  obtain ⟨i0, hi, hz0, hz1, hz2⟩ := info_parts info5
  refine wpList_append_own _ hgd s x 48 ho B 5 i0 (.int .u8 0) 1 1 Tryd.underlying48 hi hz0 hz1 hz2 rfl (by decide) v n (xs.map (Value.int .u8)) hs (hr.alloc _) ⟨W.heap.size, 0, none⟩ 1 1 [.int .u8 c] hx rfl ?_ ?_ ?_ ?_ ?_ ?_
  · intro j u hj
    match j, hj with
    | 0, hj =>
      simp at hj
      subst hj
      simp [Addr.add]
  · intro u hu; simp at hu; subst hu; rfl
  · unfold maxLen; omega
  · omega
  · simp; omega
  · intro v' w' hown' hg _
    refine h v' w' ⟨xs ++ [c], by simp [hl], by simpa using hown'⟩ ?_ ?_
    · exact (hbel.alloc hB _).grown hg (by simp; omega) (fun k hk => (hr.lt k hk).1)
    · have := hg.size; simp at this; omega
end

/-- It answers a number from 0 to N, a text of at most N bytes, and some bool. -/
def SomeText (N : Nat) (w : World) (e : Ending) (w' : World) : Prop :=
  ∃ (n : Nat) (t : ByteArray) (b : Bool), n ≤ N ∧ t.size ≤ N ∧ e = .returned (.tuple #[.int .i64 (n : Nat), .string t, .bool b]) ∧ Below w.heap.size w w'

/-- What holds at the head of the loops of quoted and display. -/
def RQ (s : ByteArray) (w : World) (gk : Nat) (v2 v5 : Value) (W : World) : Prop :=
  ∃ i n : Nat, gk = s.size - i ∧ i ≤ s.size ∧ v2 = .int .i64 (i : Nat) ∧ n ≤ i ∧ Bytes W w.heap.size v5 n ∧ Below w.heap.size w W ∧ w.heap.size ≤ W.heap.size

set_option maxHeartbeats 2000000 in
set_option maxRecDepth 100000 in
theorem quoted_any (s : ByteArray) (w : World) (hs : s.size ≤ 2147483647) (h0 : 0 < s.size) (hq : bt s 0 = 34) : Calls Tryd.prog 16 #[.string s] w (SomeText s.size w) := by
  have hx0 : ∀ h : 0 < s.size, ((s[0]'h).toNat : Int) = 34 := fun h => (bt_at s 0 h).trans hq
  have hi0 : ((0 : Int) < s.size) = True := eq_true (by omega)
  have hd0 : (0 < s.size) = True := eq_true (by omega)
  have e1 := full_beq h0
  have e3 := full_empty h0
  have H0 := Lib.hid h0; clear h0 hq
  go_enter Tryd.func16, Tryd.ntmps16
  go_wp2
  go_loopg [2, 5] (s.size - 1) (fun gk v2 v5 W => RQ s w gk v2 v5 W)
  case atStart => exact ⟨1, 0, rfl, H0.out, rfl, by omega, Bytes.nil _ _, Below.refl _ _, Nat.le_refl _⟩
  case round =>
    clear hx0 hi0 hd0 e1 e3
    obtain ⟨i, n, hg, hi, rfl, hn, hby, hbel, hwz⟩ := hrel
    have HG := Lib.hid hg; clear hg
    have HBY := Lib.hid hby; clear hby
    have HBE := Lib.hid hbel; clear hbel
    by_cases hlt : i < s.size
    · have hx : ∀ h : i < s.size, ((s[i]'h).toNat : Int) = bt s i := bt_at s i
      have qi : ((i : Int) < s.size) = True := eq_true (by omega)
      have q : (i < s.size) = True := eq_true hlt
      have HL := Lib.hid hlt; clear hlt
      by_cases h92 : bt s i = 92
      · have t92 : (bt s i == 92) = true := beq_iff_eq.mpr h92
        have H92 := Lib.hid h92; clear h92
        by_cases hlast : i + 1 < s.size
        · have hx1 : ∀ h : i + 1 < s.size, ((s[i + 1]'h).toNat : Int) = bt s ((i + 1 : Nat) : Int) := bt_at s ((i + 1 : Nat) : Int)
          have qi1 : ((i : Int) + 1 < s.size) = True := eq_true (by omega)
          have q1 : (i + 1 < s.size) = True := eq_true hlast
          have ne1 : ((i : Int) + 1 == s.size) = false := beq_eq_false_iff_ne.mpr (by omega)
          have HLAST := Lib.hid hlast; clear hlast
          have hcases : bt s ((i + 1 : Nat) : Int) = 34 ∨ bt s ((i + 1 : Nat) : Int) = 92 ∨ (bt s ((i + 1 : Nat) : Int) ≠ 34 ∧ bt s ((i + 1 : Nat) : Int) ≠ 92) := by omega
          rcases hcases with hd34 | hd92 | hdn
          · have hx1c : ∀ h : i + 1 < s.size, ((s[i + 1]'h).toNat : Int) = 34 := fun h => (hx1 h).trans hd34
            clear hx1
            go_wp2_with (first | (at_builtin; refine append_byte HBY.out HBE.out rfl (.tmp 48) (.tmp 52) rfl rfl 34 rfl ?_ ?_ ?_; (case _ => omega); (case _ => exact hwz); intro v' W' hby' hbel' hwz'; have HBY' := Lib.hid hby'; clear hby'; have HBE' := Lib.hid hbel'; clear hbel'))
            go_roundg (s.size - (i + 2))
            case measure => have := HL.out; have := HG.out; omega
            case rel => exact ⟨i + 2, n + 1, rfl, by have := HLAST.out; omega, by go_num, by omega, HBY'.out, HBE'.out, hwz'⟩
          · have hx1c : ∀ h : i + 1 < s.size, ((s[i + 1]'h).toNat : Int) = 92 := fun h => (hx1 h).trans hd92
            clear hx1
            go_wp2_with (first | (at_builtin; refine append_byte HBY.out HBE.out rfl (.tmp 48) (.tmp 52) rfl rfl 92 rfl ?_ ?_ ?_; (case _ => omega); (case _ => exact hwz); intro v' W' hby' hbel' hwz'; have HBY' := Lib.hid hby'; clear hby'; have HBE' := Lib.hid hbel'; clear hbel'))
            go_roundg (s.size - (i + 2))
            case measure => have := HL.out; have := HG.out; omega
            case rel => exact ⟨i + 2, n + 1, rfl, by have := HLAST.out; omega, by go_num, by omega, HBY'.out, HBE'.out, hwz'⟩
          · obtain ⟨d, hd⟩ : ∃ d, bt s ((i + 1 : Nat) : Int) = d := ⟨_, rfl⟩
            rw [hd] at hx1 hdn
            have HD := Lib.hid hd; clear hd
            have m1 : (d != 34) = true := bne_iff_ne.mpr hdn.1
            have m2 : (d != 92) = true := bne_iff_ne.mpr hdn.2
            clear hdn
            go_wp2
            go_ret3
            exact ⟨0, ⟨#[]⟩, false, Nat.zero_le _, Nat.zero_le _, rfl, by repeat (first | exact HBE.out | apply Below.drewN')⟩
        · have hie : i + 1 = s.size := by have := HL.out; omega
          have ne1 : ((i : Int) + 1 == s.size) = true := beq_iff_eq.mpr (by omega)
          have HIE := Lib.hid hie; clear hie hlast
          go_wp2
          go_ret3
          exact ⟨0, ⟨#[]⟩, false, Nat.zero_le _, Nat.zero_le _, rfl, by repeat (first | exact HBE.out | apply Below.drewN')⟩
      · have t92 : (bt s i == 92) = false := beq_eq_false_iff_ne.mpr h92
        have H92 := Lib.hid h92; clear h92
        by_cases h34 : bt s i = 34
        · have t34 : (bt s i == 34) = true := beq_iff_eq.mpr h34
          have H34 := Lib.hid h34; clear h34
          obtain ⟨t, ht, hcv⟩ := HBY.out.text
          have HT := Lib.hid ht; clear ht
          go_wp2
          go_quiet (fail)
          go_wp2
          go_ret3
          exact ⟨i + 1, t, true, HL.out, by have := HT.out; omega, by go_num, by repeat (first | exact HBE.out | apply Below.drewN')⟩
        · have t34 : (bt s i == 34) = false := beq_eq_false_iff_ne.mpr h34
          have H34 := Lib.hid h34; clear h34
          by_cases hlow : bt s i < 32 ∨ 126 < bt s i
          · rcases hlow with hl | hl
            · have d1 : decide (bt s i < 32) = true := decide_eq_true hl
              clear hl
              go_wp2
              go_ret3
              exact ⟨0, ⟨#[]⟩, false, Nat.zero_le _, Nat.zero_le _, rfl, by repeat (first | exact HBE.out | apply Below.drewN')⟩
            · have d1 : decide (bt s i < 32) = false := decide_eq_false (by omega)
              have d2 : decide (126 < bt s i) = true := decide_eq_true hl
              clear hl
              go_wp2
              go_ret3
              exact ⟨0, ⟨#[]⟩, false, Nat.zero_le _, Nat.zero_le _, rfl, by repeat (first | exact HBE.out | apply Below.drewN')⟩
          · have d1 : decide (bt s i < 32) = false := decide_eq_false (by omega)
            have d2 : decide (126 < bt s i) = false := decide_eq_false (by omega)
            clear hlow
            go_wp2_with (first | (at_builtin; refine append_byte HBY.out HBE.out rfl (.tmp 23) (.tmp 25) rfl rfl (bt s i) rfl ?_ ?_ ?_; (case _ => omega); (case _ => exact hwz); intro v' W' hby' hbel' hwz'; have HBY' := Lib.hid hby'; clear hby'; have HBE' := Lib.hid hbel'; clear hbel'))
            go_roundg (s.size - (i + 1))
            case measure => have := HL.out; have := HG.out; omega
            case rel => exact ⟨i + 1, n + 1, rfl, HL.out, by go_num, by omega, HBY'.out, HBE'.out, hwz'⟩
    · have qi : ((i : Int) < s.size) = False := eq_false (by omega)
      have q : (i < s.size) = False := eq_false hlt
      clear hlt
      go_wp2
      go_ret3
      exact ⟨0, ⟨#[]⟩, false, Nat.zero_le _, Nat.zero_le _, rfl, by repeat (first | exact HBE.out | apply Below.drewN')⟩
end Go.Proofs.YtjalihaidhkofaaDoor.Hand
