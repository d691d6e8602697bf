import Derived.Test.YbulkbyisDoorCards
import Derived.Test.YbulkbyisDoorTie
import Derived.Test.YbulkbyisDoorWalkE
import Derived.ProofKit
import Derived.LaidLaws
import Derived.LaidHandle
import Derived.Handed
import Derived.ChangeVars
import Derived.SevenTiedAt
import Derived.OpenShut
import Derived.OpenVars
namespace Go.Proofs.YbulkbyisDoor
open Go.ChangeShapes Go.WideShapes Go.ChangeAt Go.RowKit

theorem own : ownKnob Ybad.prog.godebug = none := by kernel_rfl
theorem laidOut : laidOutB Ybad.prog = true := by kernel_rfl
theorem size_22 : Ybad.prog.cellsOf 22 = 1 := by kernel_rfl
theorem size_29 : Ybad.prog.cellsOf 29 = 12 := by kernel_rfl

/-- The listed variable's name, out of the given specification. -/
def tayName : String := Rows.lawS3736ARangeSpec.vars.headD ""
theorem gT : Ybad.prog.globalNamed tayName = some 1 := by kernel_rfl
theorem gTType : (Ybad.prog.globals[1]?).map (·.type) = some 29 := by kernel_rfl

/-- One start that fits: variable number g holds the given cells. -/
def laidWorldOf (P : Program) (os : Os) (g : Nat) (cs : Array Value) : World :=
  let w0 := World.holding P os ⟨#[], #[], []⟩
  { w0 with heap := w0.heap.modify g fun
      | .cells _ t frozen => .cells cs t frozen
      | o => o }
def tayCells : Array Value := (Fl.tay.map (Value.float .f64)).toArray
theorem laid_met (os : Os) (args : Array Value) : laidMetH Ybad.prog Rows.lawS3736ARangeRow.laid ((laidWorldOf Ybad.prog os 1 tayCells).forCall (fun _ _ => 0) ⟨#[], args, []⟩).memory :=
  laidMetH_of_parts (laidMet_of_run' 8 (by kernel_rfl) (by kernel_rfl)) (by kernel_rfl)

theorem trod_float {H : Type} {enc : TypeId × Value → H} {P : Program} {w : World} {base : Nat} {spare : Nat → Bool} {held : Bool} {fuel : Nat} {t : TypeId} {cs : List Value} {x : DataW H × List MemPlace} {k : FloatKind}
    (ht : P.underlying t = some (.float k)) (h : DataW.trod enc P w base spare held fuel t cs = some x) : ∃ n, cs = [.float k n] ∧ x = (.lit (.float k n), []) ∧ (Lit.float k n).wf = true := by
  cases fuel with
  | zero => simp [DataW.trod] at h
  | succ n =>
    unfold DataW.trod at h
    rw [ht] at h
    split at h <;> simp_all

theorem laid_list : (Rows.laid_example_com_vestline_vestline_blackscholes_expTaylor (H := Unit)) = .agg (Fl.tay.map fun b => .lit (.float .f64 b)) := rfl

set_option maxRecDepth 100000 in
theorem series_of_laid {W : World} (h : laidMetH Ybad.prog Rows.lawS3736ARangeRow.laid W) : Series W (fun i => Fl.tay.getD i 0) := by
  have h' : laidMet Ybad.prog [(tayName, Rows.laid_example_com_vestline_vestline_blackscholes_expTaylor)] W := h
  obtain ⟨ps, ⟨g, t, cs, fuel, p, q, hg, ht, hvar, hd, _, _⟩, _⟩ := h'
  obtain rfl := Option.some.inj (gT.symm.trans hg)
  obtain rfl := Option.some.inj (gTType.symm.trans ht)
  obtain ⟨xs, m, rfl, hx, hlen, hxl, hel⟩ := DataW.trod_array Ybad.underlying29 hd
  rw [laid_list] at hx
  simp only [Prod.mk.injEq, DataW.agg.injEq] at hx
  refine ⟨fun i hi => ?_, fun i => rfl⟩
  have hi' := hel i hi
  have hl : i < xs.length := by omega
  rw [List.getElem?_eq_getElem hl] at hi'
  obtain ⟨b, hb1, hb2, _⟩ := trod_float Ybad.underlying22 hi'
  have e1 : (xs.map (·.1))[i]? = some (.lit (.float .f64 b)) := by
    rw [List.getElem?_map, List.getElem?_eq_getElem hl, hb2]; rfl
  rw [← hx.1, List.getElem?_map] at e1
  have e2 : Fl.tay.getD i 0 = b := by
    cases hc : Fl.tay[i]? with
    | none => rw [hc] at e1; cases e1
    | some y =>
      rw [hc] at e1
      simp only [Option.map_some, Option.some.injEq, DataW.lit.injEq, Lit.float.injEq, true_and] at e1
      rw [List.getD_eq_getElem?_getD, hc, Option.getD_some, e1]
  have hcell := World.var?_cell gT hvar i
  rw [hcell]
  show cs[i]? = some (.float .f64 (Fl.tay.getD i 0))
  rw [e2, size_22, Nat.mul_one] at *
  have hz : cs.toList[i]? = some (.float .f64 b) := by
    have := congrArg (fun l => l[0]?) hb1
    simpa [List.getElem?_take, List.getElem?_drop] using this
  simpa using hz

set_option maxRecDepth 100000 in
theorem lifted (os : Os) (started : os.Started) (H : Type) (enc : TypeId × Value → H) :
    ReturnsInHanded {} Ybad.checked os 3 .any (fun w args => (Rows.lawS3736ARangeSpec.pre enc Ybad.prog Ybad.f3 Rows.lawS3736ARangeRow.domain false w args ∧ laidMetH Ybad.prog Rows.lawS3736ARangeRow.laid w) ∧ sizedMet enc Ybad.prog Ybad.f3 (OpenSpec.ofChange Rows.lawS3736ARangeSpec) false w args)
      (Rows.lawS3736ARangeSpec.post enc Ybad.prog Ybad.f3 false true false false) := by
  refine returnsInHanded_of_change_and (C := Ybad.checked) (X := fun w _ => laidMetH Ybad.prog Rows.lawS3736ARangeRow.laid w) (fun _ _ _ hh h => h.of_heap hh) own started (by kernel_rfl) Ybad.func3
    (ChangeSpec.witness_shaped (enc := enc) (C := Ybad.checked) (os := os) (X := fun w _ => laidMetH Ybad.prog Rows.lawS3736ARangeRow.laid w) false (laidWorldOf Ybad.prog os 1 tayCells) #[.float .f64 0] 8 rfl (World.shaped_of_RefB (by kernel_rfl) (by kernel_rfl)) (by kernel_rfl) (by kernel_rfl) (by kernel_rfl) (laid_met os _)) ?_
  intro W base args ds gs before hval0 hW _ _ hL _
  have hval : ∀ (j : Nat) t v, Ybad.f3.params[j]? = some t → args[j]? = some v → Value.okWide Ybad.prog W .any base t v := hval0
  have hW' := hW
  obtain ⟨p, q, hA0, hV0, rfl, hfz, hnd⟩ := hW
  have hA : DataW.TrodAll enc Ybad.prog W 0 (fun _ => true) true Ybad.f3.params.toList args.toList ds p := hA0
  have hV : DataW.TrodVars enc Ybad.prog W (fun _ => true) [tayName] gs q := hV0
  rw [Ybad.params3] at hA hval
  obtain ⟨v0, d0, rfl, rfl, h0⟩ := trodAll_one hA
  obtain ⟨a, rfl, rfl, rfl, wa⟩ := open_float Ybad.underlying22 (hval 0 22 v0 rfl rfl) h0
  clear hA0 hV0 hval0
  obtain ⟨g', t', cs, fuel, dg, pg, rfl, _, _, _, _, _⟩ := trodVars_one hV
  have ha : a < 2 ^ 64 := by simpa [Lit.wf] using wa
  refine (law_any a _ W ha (series_of_laid hL)).mono fun e W' ⟨he, hw⟩ => ?_
  subst he hw
  exact ⟨_, rfl, _, _, _, [], [], q, hW', trodAll_mk1 (shut_bool Ybad.underlying4 _), trodAll_mk1 (shut_float Ybad.underlying22 wa),
    Below.trodVars laidOut (Below.refl _ _) (by kernel_rfl) hV, (Below.refl _ _).frame _, fun h => by cases h⟩

theorem row_holds : Rows.LawS3736ARangeSaid :=
  OpenClaim.holds_of_wide 3 Ybad.f3 rfl rfl rfl rfl rfl rfl rfl ⟨rfl, rfl, rfl, rfl, rfl⟩ rfl rfl rfl rfl rfl (by kernel_rfl) Ybad.func3 (by kernel_rfl)
    (of_decide_eq_true (by kernel_rfl)) (by unfold Func.isWrapper; first | (rw [if_pos (by decide +kernel)]; kernel_rfl) | (rw [if_neg (by decide +kernel)]; exact ⟨rfl, rfl⟩))
    (fun os started H enc _ => lifted os started H enc)

theorem proved : Rows.LawS3736ARangeCardSaid :=
  Claim7.holds_tied_plain_at .later [] [.data] true (true, "3b2d4d46806d7c6d1f5dd03689a8606cbbc6a0a4a2656ca732d531cc931f4b27") false
    row_holds (fun _ h => by cases h) (by kernel_rfl) (fun _ h => by cases h) lawS3736ARange_row_tie rfl ⟨rfl, rfl⟩ (by kernel_rfl) rfl
    (fun f fn hf hfn => by
      obtain rfl : f = 3 := Option.some.inj ((show Ybad.prog.funcNamed Rows.lawS3736ARangeRow.func = some 3 by kernel_rfl).symm.trans hf) |>.symm
      obtain rfl : fn = Ybad.f3 := (Option.some.inj (Ybad.func3.symm.trans hfn)).symm
      exact ⟨by kernel_rfl, fun j t ht => by
        rw [Ybad.params3] at ht
        have h3 : t = 22 := by
          rcases j with _ | j
          · simpa using ht.symm
          · simp at ht
        rw [h3]
        exact (show Ybad.prog.wantsStandIn 22 = false by kernel_rfl)⟩)
    (by kernel_rfl)
end Go.Proofs.YbulkbyisDoor
