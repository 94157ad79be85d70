/- FnDecimal, its tied card: for every string, laws.FnDecimal returns true, without a panic, and its argument reads as it did. Conditions: those of the given row and card alone: the thirteen listed package-level variables read, when the call begins, as the row's data say (the given tie binds these data to the program's text). Here: the listed variables' cells off their data, the witness, the row, the card. After the worked text PinupProofs. -/
import Derived.Test.YtjalihaidhkofaaDoorCards
import Derived.Test.YtjalihaidhkofaaDoorTie
import Derived.Test.YtjalihaidhkofaaDoorFall
import Derived.WalkKit
import Derived.ProofKit
import Derived.OpenShut
import Derived.LaidMore
import Derived.Lay
import Derived.Lib.LaidU8
import Derived.SevenTiedAt
import Derived.Stop.Joined
namespace Go.Proofs.YtjalihaidhkofaaDoor.FnDecimal
open Go.ChangeMaps Go.ChangeShapes Go.WideShapes Go.ChangeAt Go.RowKit
open Go.Proofs.YtjalihaidhkofaaDoor Go.Proofs.YtjalihaidhkofaaDoor.Hand

theorem own : ownKnob Tryd.prog.godebug = none := by kernel_rfl
theorem plainLaid : (Rows.fnDecimalRow.laid.all fun x => x.snd.handleName?.isNone) = true := by kernel_rfl

theorem trod_float {H : Type} {enc : TypeId × Value → H} {P : Program} {w : World} {base : Nat} {sp : Nat → Bool} {held : Bool} {fuel : Nat} {t : TypeId} {cs : List Value} {x : DataW H × List MemPlace} {k : FloatKind}
    (ht : P.underlying t = some (.float k)) (h : DataW.trod enc P w base sp held fuel t cs = some x) : ∃ b, cs = [.float k b] ∧ x = (.lit (.float k b), []) := by
  cases fuel with
  | zero => simp [DataW.trod] at h
  | succ n =>
    unfold DataW.trod at h
    rw [ht] at h
    split at h <;> simp_all

theorem opt_cell {W : World} (h : laidMet Tryd.prog Rows.fnDecimalRow.laid W) : W.cell? ⟨4, 0, none⟩ = some (.bool true) := by
  obtain ⟨g, t, cs, fuel, p, hg, ht, hv, hd⟩ := Lib.laidMet.reads h (n := "internal/strconv.optimize") (d := Rows.laid_internal_strconv_optimize) (.tail _ (.tail _ (.tail _ (.tail _ (.head _)))))
  obtain rfl := Option.some.inj ((show Tryd.prog.globalNamed "internal/strconv.optimize" = some 4 by kernel_rfl).symm.trans hg)
  obtain rfl := Option.some.inj ((show (Tryd.prog.globals[4]?).map (·.type) = some 4 by kernel_rfl).symm.trans ht)
  obtain ⟨b, hb, hx⟩ := DataW.trod_bool Tryd.underlying4 hd
  have e : (DataW.lit (.bool true) : DataW Unit) = .lit (.bool b) := congrArg Prod.fst hx
  injection e with e
  injection e with e
  subst e
  rw [World.var?_cell hg hv 0, ← Array.getElem?_toList, hb]
  rfl

theorem info_cell {W : World} (h : laidMet Tryd.prog Rows.fnDecimalRow.laid W) : W.cell? ⟨5, 0, none⟩ = some (.int .u64 52) := by
  obtain ⟨g, t, cs, fuel, p, hg, ht, hv, hd⟩ := Lib.laidMet.reads h (n := "internal/strconv.float64info") (d := Rows.laid_internal_strconv_float64info) (.tail _ (.tail _ (.tail _ (.head _))))
  obtain rfl := Option.some.inj ((show Tryd.prog.globalNamed "internal/strconv.float64info" = some 5 by kernel_rfl).symm.trans hg)
  obtain rfl := Option.some.inj ((show (Tryd.prog.globals[5]?).map (·.type) = some 88 by kernel_rfl).symm.trans ht)
  obtain ⟨xs, n, rfl, hx, hl, hxl, hall⟩ := DataW.trod_struct Tryd.underlying88 hd
  have h0 := hall 0 { name := "mantbits", type := 63, offset := 0, embedded := false, tag := "", pkgPath := "internal/strconv", byteOffset := 0 } rfl
  have c63 : Tryd.prog.cellsOf 63 = 1 := by kernel_rfl
  have e : [(DataW.lit (.int .u64 52) : DataW Unit), .lit (.int .u64 11), .lit (.int .i64 (-1023))] = xs.map (·.1) := by
    have e1 : (DataW.agg [.lit (.int .u64 52), .lit (.int .u64 11), .lit (.int .i64 (-1023))] : DataW Unit) = .agg (xs.map (·.1)) := congrArg Prod.fst hx
    injection e1
  cases xs with
  | nil => simp at e
  | cons x0 xs =>
    rw [List.getElem?_cons_zero] at h0
    obtain ⟨m, hm, hx0, _⟩ := DataW.trod_int Tryd.underlying63 h0
    have e2 : (DataW.lit (.int .u64 52) : DataW Unit) = x0.1 := by
      have := congrArg List.head? e
      simpa using this
    rw [hx0] at e2
    obtain rfl : 52 = m := (Lit.int.inj (DataW.lit.inj e2)).2
    rw [World.var?_cell hg hv 0, ← Array.getElem?_toList]
    rw [c63, List.drop_zero] at hm
    cases hl2 : cs.toList with
    | nil => rw [hl2] at hm; cases hm
    | cons y ys =>
      rw [hl2, List.take_succ_cons] at hm
      exact congrArg some (List.cons.inj hm).1

theorem tens_cell {W : World} (h : laidMet Tryd.prog Rows.fnDecimalRow.laid W) :
    ∃ b o c, W.cell? ⟨8, 0, none⟩ = some (.slice (some ⟨b, o, none⟩) 23 c) ∧ ∀ k, 1 ≤ k → k ≤ 3 → W.cell? ⟨b, o + k, none⟩ = some (.float .f64 (Flt.tenBits k)) := by
  obtain ⟨g, t, cs, fuel, p, hg, ht, hv, hd⟩ := Lib.laidMet.reads h (n := "internal/strconv.float64pow10") (d := Rows.laid_internal_strconv_float64pow10) (.tail _ (.tail _ (.tail _ (.tail _ (.tail _ (.tail _ (.head _)))))))
  obtain rfl := Option.some.inj ((show Tryd.prog.globalNamed "internal/strconv.float64pow10" = some 8 by kernel_rfl).symm.trans hg)
  obtain rfl := Option.some.inj ((show (Tryd.prog.globals[8]?).map (·.type) = some 126 by kernel_rfl).symm.trans ht)
  have c30 : Tryd.prog.cellsOf 30 = 1 := by kernel_rfl
  obtain ⟨a, cap, hcs, _, hel⟩ := open_row Tryd.underlying126 c30 hd
  have hcell : ∀ (i b : Nat), (Rows.laid_internal_strconv_float64pow10 (H := Unit)) = Rows.laid_internal_strconv_float64pow10 → ∀ d : DataW Unit, d = .lit (.float .f64 b) → (∃ v n q, W.cell? (a.add i) = some v ∧ DataW.trod (fun _ => ()) Tryd.prog W 0 (fun _ => true) false n 30 [v] = some (d, q)) → W.cell? (a.add i) = some (.float .f64 b) := by
    rintro i b - d rfl ⟨v, n, q, h1, h2⟩
    obtain ⟨b', h3, h4⟩ := trod_float Tryd.underlying30 h2
    have e : (DataW.lit (.float .f64 b) : DataW Unit) = .lit (.float .f64 b') := congrArg Prod.fst h4
    have e2 : b = b' := (Lit.float.inj (DataW.lit.inj e)).2
    rw [h1, e2]
    exact congrArg some (List.cons.inj h3).1
  have k0 := hcell 0 4607182418800017408 rfl _ rfl (hel 0 _ rfl)
  have k1 := hcell 1 4621819117588971520 rfl _ rfl (hel 1 _ rfl)
  have k2 := hcell 2 4636737291354636288 rfl _ rfl (hel 2 _ rfl)
  have k3 := hcell 3 4652007308841189376 rfl _ rfl (hel 3 _ rfl)
  have hsp : a.spot = none := by
    have e0 : a.add 0 = a := rfl
    rw [e0] at k0
    unfold World.cell? at k0
    split at k0
    · split at k0
      · cases k0
      · rename_i hh
        cases hs : a.spot with
        | none => rfl
        | some y => rw [hs] at hh; exact absurd rfl hh
    · cases k0
  obtain ⟨b, o, sp⟩ := a
  obtain rfl : sp = none := hsp
  refine ⟨b, o, cap, ?_, fun k h1 h3 => ?_⟩
  · rw [World.var?_cell hg hv 0, ← Array.getElem?_toList, hcs]
    rfl
  · rcases (show k = 1 ∨ k = 2 ∨ k = 3 by omega) with rfl | rfl | rfl
    · exact k1
    · exact k2
    · exact k3

theorem tabs {W : World} (h : laidMetH Tryd.prog Rows.fnDecimalRow.laid W) : Tabs W := by
  rw [MakeChecks.laidMetH_plain _ _ _ plainLaid] at h
  exact ⟨opt_cell h, info_cell h, tens_cell h⟩

set_option maxRecDepth 100000 in
theorem lifted (os : Os) (started : os.Started) (H : Type) (enc : TypeId × Value → H) :
    ReturnsInHanded {} Tryd.checked os 3 .any (fun w args => (Rows.fnDecimalSpec.pre enc Tryd.prog Tryd.f3 Rows.fnDecimalRow.domain false w args ∧ laidMetH Tryd.prog Rows.fnDecimalRow.laid w) ∧ sizedMet enc Tryd.prog Tryd.f3 (OpenSpec.ofChange Rows.fnDecimalSpec) false w args)
      (Rows.fnDecimalSpec.post enc Tryd.prog Tryd.f3 false true false false) := by
  refine returnsInHanded_of_change_and (C := Tryd.checked) (X := fun w _ => laidMetH Tryd.prog Rows.fnDecimalRow.laid w) (fun _ _ _ hh h => h.of_heap hh) own started (by kernel_rfl) Tryd.func3
    (ChangeSpec.witness_shaped (enc := enc) (C := Tryd.checked) (os := os) (X := fun w _ => laidMetH Tryd.prog Rows.fnDecimalRow.laid w) false (World.laidAll Tryd.prog os Rows.fnDecimalRow.laid) #[.string ⟨#[]⟩] 8 (World.laidAll_os _ _ _)
      (World.shaped_of_ZipB (by kernel_rfl) (by kernel_rfl)) (by kernel_rfl) (by kernel_rfl) (by kernel_rfl)
      (by rw [MakeChecks.laidMetH_plain _ _ _ plainLaid]; exact laidMet_laidAll _ (by kernel_rfl) (by kernel_rfl))) ?_
  intro W base args ds gs before hval0 hW _ _ hL _
  have hval : ∀ (j : Nat) t v, Tryd.f3.params[j]? = some t → args[j]? = some v → Value.okWide Tryd.prog W .any base t v := hval0
  have hW' := hW
  obtain ⟨p, q, hA0, hV, rfl, _, _⟩ := hW
  have hA : DataW.TrodAll enc Tryd.prog W 0 (fun _ => true) true Tryd.f3.params.toList args.toList ds p := hA0
  rw [Tryd.params3] at hA hval
  obtain ⟨v0, d0, rfl, rfl, h0⟩ := trodAll_one hA
  obtain ⟨rfl, rfl⟩ := trodVars_none hV
  obtain ⟨s, rfl, rfl, rfl, hsz⟩ := open_string Tryd.underlying9 (hval 0 9 v0 rfl rfl) h0
  simp only [List.append_nil] at hW'
  refine (fn_all s W (tabs hL)).mono fun e W' ⟨he, hb⟩ => ?_
  subst he
  exact ⟨_, rfl, _, _, _, [], [], [], hW', trodAll_mk1 (shut_bool Tryd.underlying4 _), trodAll_mk1 (shut_string Tryd.underlying9 hsz), rfl, hb.frame _, fun h => by cases h⟩

theorem said : Rows.FnDecimalSaid :=
  OpenClaim.holds_of_wide 3 Tryd.f3 rfl rfl rfl rfl rfl rfl rfl ⟨rfl, rfl, rfl, rfl, rfl⟩ rfl rfl rfl rfl rfl (by kernel_rfl) Tryd.func3 (by kernel_rfl)
    (of_decide_eq_true (by kernel_rfl)) (by unfold Func.isWrapper; first | (rw [if_pos (by decide +kernel)]; kernel_rfl) | (rw [if_neg (by decide +kernel)]; exact ⟨rfl, rfl⟩))
    (fun os started H enc _ => lifted os started H enc)

/-- No parameter wants a stand-in; the program looks: what the card asks. -/
theorem plain (f : FuncId) (fn : Func) (hf : Tryd.pinned.checked.prog.funcNamed "httpfields/laws.FnDecimal" = some f) (hfn : Tryd.pinned.checked.prog.funcs[f]? = some fn) :
    true = Tryd.pinned.checked.prog.looks [] ∧ ∀ (j : Nat) t, fn.params[j]? = some t → Tryd.pinned.checked.prog.wantsStandIn t = false := by
  obtain rfl : f = 3 := Option.some.inj ((show Tryd.prog.funcNamed "httpfields/laws.FnDecimal" = some 3 by kernel_rfl).symm.trans hf) |>.symm
  obtain rfl : fn = Tryd.f3 := (Option.some.inj (Tryd.func3.symm.trans hfn)).symm
  refine ⟨by kernel_rfl, fun j t ht => ?_⟩
  rw [Tryd.params3] at ht
  obtain rfl : t = 9 := by simpa using Array.mem_of_getElem? ht
  exact (show Tryd.prog.wantsStandIn 9 = false by kernel_rfl)

/-- THE CARD. -/
theorem card : Rows.FnDecimalCardSaid :=
  Claim7.holds_tied_plain_at .later [] _ _ _ _ said (fun _ h => by cases h) (by kernel_rfl) (fun _ h => by cases h) fnDecimal_row_tie rfl ⟨rfl, rfl⟩ (by kernel_rfl) rfl plain (by kernel_rfl)
end Go.Proofs.YtjalihaidhkofaaDoor.FnDecimal
