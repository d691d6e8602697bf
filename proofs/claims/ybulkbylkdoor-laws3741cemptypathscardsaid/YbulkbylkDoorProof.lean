import Derived.Test.YbulkbylkDoorCards
import Derived.Test.YbulkbylkDoorTie
import Derived.Test.YbulkbylkDoorE
import Derived.ProofKit
import Derived.LaidLaws
import Derived.LaidHandle
import Derived.Handed
import Derived.ChangeVars
import Derived.Deep.Slices
import Derived.Deep.Strs
import Derived.SevenTiedAt
import Derived.OpenShut
namespace Go.Proofs.YbulkbylkDoor
open Go.ChangeShapes Go.WideShapes Go.ChangeAt Go.RowKit

theorem own : ownKnob Ybad.prog.godebug = none := by kernel_rfl
theorem laidOut : laidOutB Ybad.prog = true := by kernel_rfl
theorem size_25 : Ybad.prog.cellsOf 25 = 3 := by kernel_rfl
theorem size_98 : Ybad.prog.cellsOf 98 = 4 := by kernel_rfl
theorem size_32 : Ybad.prog.cellsOf 32 = 2 := by kernel_rfl
theorem size_5 : Ybad.prog.cellsOf 5 = 1 := by kernel_rfl
theorem size_3 : Ybad.prog.cellsOf 3 = 1 := by kernel_rfl
theorem size_4 : Ybad.prog.cellsOf 4 = 1 := by kernel_rfl
theorem size_9 : Ybad.prog.cellsOf 9 = 1 := by kernel_rfl
theorem size_30 : Ybad.prog.cellsOf 30 = 1 := by kernel_rfl

/-- The listed variable's name, out of the given specification. -/
def tabName : String := Rows.lawS3741CEmptyPathsSpec.vars.headD ""
theorem gT : Ybad.prog.globalNamed tabName = some 0 := by kernel_rfl
theorem gTType : (Ybad.prog.globals[0]?).map (·.type) = some 99 := by kernel_rfl


/-- One start that fits: variable number 0 holds a slice over a new block. -/
def laidWorldOf (P : Program) (os : Os) (te : TypeId) (low g n : Nat) (cs : Array Value) : World :=
  let w0 := World.holding P os ⟨#[.cells cs te], #[], []⟩
  { w0 with heap := w0.heap.modify g fun
      | .cells _ t frozen => .cells #[.slice (some ⟨low, 0, none⟩) n n] t frozen
      | o => o }
def str (l : List UInt8) : Value := .string ⟨l.toArray⟩
def tabCells : Array Value := #[
  str [109, 105, 110], .int .i64 1, .int .i64 1, .int .i64 1,
  str [109, 97, 120], .int .i64 1, .int .i64 1, .int .i64 1,
  str [97, 118, 103], .int .i64 1, .int .i64 1, .int .i64 1,
  str [109, 101, 100, 105, 97, 110], .int .i64 1, .int .i64 1, .int .i64 1,
  str [115, 117, 109], .int .i64 1, .int .i64 1, .int .i64 1,
  str [99, 111, 117, 110, 116], .int .i64 0, .int .i64 1, .int .i64 1,
  str [115, 116, 100, 100, 101, 118], .int .i64 1, .int .i64 1, .int .i64 1,
  str [102, 108, 97, 116, 116, 101, 110], .int .i64 0, .int .i64 2, .int .i64 0,
  str [115, 101, 116, 95, 105, 110, 116, 101, 114, 115, 101, 99, 116, 105, 111, 110], .int .i64 2, .int .i64 2, .int .i64 2]
theorem laid_met (os : Os) (args : Array Value) : laidMetH Ybad.prog Rows.lawS3741CEmptyPathsRow.laid ((laidWorldOf Ybad.prog os 98 (World.holding Ybad.prog default ⟨#[], #[], []⟩).heap.size 0 9 tabCells).forCall (fun _ _ => 0) ⟨#[], args, []⟩).memory :=
  laidMetH_of_parts (laidMet_of_run' 8 (by kernel_rfl) (by kernel_rfl)) (by kernel_rfl)

def tabData : List (DataW Unit) := match Rows.laid_example_com_pairforge_pairforge_internal_ruleset_functions (H := Unit) with | .slice l _ => l | _ => []
theorem tab_len : tabData.length = 9 := rfl
theorem tab_each : ∀ x ∈ tabData, ∃ a k d c, x = .agg [a, .agg [.lit (.int .i64 k), .lit (.int .i64 d)], c] ∧ 0 ≤ d := by
  intro x hx
  simp only [tabData, Rows.laid_example_com_pairforge_pairforge_internal_ruleset_functions, List.mem_cons, List.not_mem_nil, or_false] at hx
  rcases hx with rfl | rfl | rfl | rfl | rfl | rfl | rfl | rfl | rfl
  all_goals exact ⟨_, _, _, _, rfl, by decide⟩

/-- Cells of a row, one by one. -/
theorem cells_at {W : World} {a : Addr} {n : Nat} {cs : List Value} (h : W.cells? 0 a n = some cs) (j : Nat) (hj : j < n) : ∃ v, cs[j]? = some v ∧ W.cell? (a.add j) = some v := by
  obtain ⟨_, hl, hc⟩ := World.cells?_some h
  have := hc j hj
  rw [List.getElem?_eq_getElem (by omega)] at this
  exact ⟨_, List.getElem?_eq_getElem (by omega), this⟩

set_option maxRecDepth 100000 in
theorem tab_of_laid {W : World} (h : laidMetH Ybad.prog Rows.lawS3741CEmptyPathsRow.laid W) : TabAt W := by
  have h' : laidMet Ybad.prog [(tabName, .slice tabData [])] W := h
  obtain ⟨ps, ⟨g, t, cs, fuel, p, q, hg, ht, hvar, hd, _, _⟩, _⟩ := h'
  obtain rfl := Option.some.inj (gT.symm.trans hg)
  obtain rfl := Option.some.inj (gTType.symm.trans ht)
  have hcell : ∀ v, cs.toList = [v] → W.cell? ⟨0, 0, none⟩ = some v := by
    intro v hv
    have := World.var?_cell gT hvar 0
    obtain ⟨l⟩ := cs
    simp only at hv
    subst hv
    simpa using this
  rcases Deep.open_slice Ybad.underlying99 hd with ⟨_, hx⟩ | ⟨a, len, cap, m, n, D, Pl, hcs, _, hl, hm, hmm, hx, hel⟩
  · simp at hx
  · simp only [Prod.mk.injEq, DataW.slice.injEq] at hx
    obtain ⟨⟨hx1, hx2⟩, _⟩ := hx
    have hlen : len = 9 := by have := congrArg List.length hx1; rw [tab_len] at this; simpa using this.symm
    subst hlen
    have h9 : 9 ≤ m := by rw [hmm]; split <;> omega
    obtain ⟨v0, _, hv0⟩ := cells_at (hel 0 (by omega)).choose_spec.1 0 (by rw [size_98]; omega)
    obtain ⟨b, off, spot⟩ := a
    have hspot : spot = none := by simpa [Addr.add] using World.cell?_spot hv0
    subst hspot
    refine ⟨b, off, cap, hcell _ hcs, fun i hi => ?_⟩
    obtain ⟨cs', h1, h2⟩ := hel i (by omega)
    rw [size_98] at h1
    have hDi : D i ∈ tabData := by rw [hx1]; exact List.mem_map.2 ⟨i, List.mem_range.2 hi, rfl⟩
    obtain ⟨da, k, d, dc, hDe, hd0⟩ := tab_each _ hDi
    obtain ⟨y0, y1, y2, n1, hy, _, _, hy1, _⟩ := Deep.trod_struct3 Ybad.underlying98 h2
    rw [hDe] at hy
    simp only [Prod.mk.injEq, DataW.agg.injEq, List.cons.injEq, and_true] at hy
    obtain ⟨⟨_, hy1e, _⟩, _⟩ := hy
    obtain ⟨z0, z1, n2, hz, hzl, hz0, hz1⟩ := trod_struct2 Ybad.underlying32 hy1
    rw [hz] at hy1e
    simp only [DataW.agg.injEq, List.cons.injEq, and_true] at hy1e
    obtain ⟨k', hk1, hk2, _⟩ := DataW.trod_int Ybad.underlying30 hz0
    obtain ⟨d', hd1, hd2, _⟩ := DataW.trod_int Ybad.underlying3 hz1
    rw [hk2, hd2] at hy1e
    simp only [DataW.lit.injEq, Lit.int.injEq, true_and] at hy1e
    obtain ⟨rfl, rfl⟩ := hy1e
    obtain ⟨u1, e1, f1⟩ := cells_at h1 1 (by omega)
    obtain ⟨u2, e2, f2⟩ := cells_at h1 2 (by omega)
    obtain ⟨_, hl4, _⟩ := World.cells?_some h1
    match cs', hl4 with
    | [c0, c1, c2, c3], _ =>
      simp [size_30, size_3, size_32] at hk1 hd1 e1 e2
      subst e1 e2
      refine ⟨k, d, hd0, ?_, ?_⟩
      · rw [hk1] at f1; rw [← f1]; simp [add_plain, Nat.add_assoc]
      · rw [hd1] at f2; rw [← f2]; simp [add_plain, Nat.add_assoc]

set_option maxRecDepth 100000 in
theorem specs_of {H : Type} {enc : TypeId × Value → H} {W : World} {a0 : Option Addr} {len cap : Nat} {d : DataW H} {p : List MemPlace}
    (h : DataW.Trod enc Ybad.prog W 0 (fun _ => true) true 22 (.slice a0 len cap) d p) : ∀ k, k < len → ∃ b off fn d pt, a0 = some ⟨b, off, none⟩ ∧ SpecAt W b off k fn d pt := by
  intro k hk
  obtain ⟨fuel, hf⟩ := h
  rcases Deep.open_slice Ybad.underlying22 hf with ⟨hcs, _⟩ | ⟨a, len', cap', m, n, D, Pl, hcs, _, hl, hm, hmm, hx, hel⟩
  · simp [Value.cells] at hcs
    omega
  · simp [Value.cells] at hcs
    obtain ⟨rfl, rfl, rfl⟩ := hcs
    simp only [if_true] at hmm
    obtain ⟨cs', h1, h2⟩ := hel k (by omega)
    rw [size_25] at h1
    obtain ⟨y0, y1, y2, n1, hy, _, hy0, hy1, hy2⟩ := Deep.trod_struct3 Ybad.underlying25 h2
    obtain ⟨fn, hk1, _, hw1⟩ := DataW.trod_int Ybad.underlying5 hy0
    obtain ⟨dd, hd1, _, _⟩ := DataW.trod_int Ybad.underlying3 hy1
    obtain ⟨pt, hp1, _⟩ := DataW.trod_bool Ybad.underlying4 hy2
    obtain ⟨u0, e0, f0⟩ := cells_at h1 0 (by omega)
    obtain ⟨u1, e1, f1⟩ := cells_at h1 1 (by omega)
    obtain ⟨u2, e2, f2⟩ := cells_at h1 2 (by omega)
    obtain ⟨_, hl3, _⟩ := World.cells?_some h1
    have hb := bounds_u8 hw1
    obtain ⟨b, off, spot⟩ := a
    obtain ⟨cs0, h10, _⟩ := hel 0 (by omega)
    rw [size_25] at h10
    obtain ⟨u00, _, f00⟩ := cells_at h10 0 (by omega)
    have hspot : spot = none := by simpa [Addr.add] using World.cell?_spot f00
    subst hspot
    match cs', hl3 with
    | [c0, c1, c2], _ =>
      simp [size_5, size_3, size_4] at hk1 hd1 hp1 e0 e1 e2
      subst e0 e1 e2
      refine ⟨b, off, fn, dd, pt, rfl, ?_, ?_, ?_, hb.1, hb.2⟩
      · rw [hk1] at f0; rw [← f0]; simp [add_plain]
      · rw [hd1] at f1; rw [← f1]; simp [add_plain]
      · rw [hp1] at f2; rw [← f2]; simp [add_plain]

theorem var?_below {P : Program} {B g : Nat} {W W' : World} {n : String} {cs : Array Value} (h : Below B W W') (hg : P.globalNamed n = some g) (hgB : g < B) (hv : W.var? P n = some cs) : W'.var? P n = some cs := by
  unfold World.var? at hv ⊢
  simp only [hg, Option.bind_some] at hv ⊢
  rw [h.block g hgB]
  exact hv

/-- A variable of one cell reads behind the call as it did. -/
theorem vars_below1 {H : Type} {enc : TypeId × Value → H} {P : Program} {W W' : World} {n : String} {g : Nat} {t : TypeId} {v : Value} {gs : List (DataW H)} {q : List MemPlace} (hl : laidOutB P = true) (hr : P.readableRec t = true) (hrow : t < P.types.size)
    (hg : P.globalNamed n = some g) (ht : (P.globals[g]?).map (·.type) = some t) (hvar : W.var? P n = some #[v]) (hcell : v.cells = #[v]) (hV : DataW.TrodVars enc P W (fun _ => true) [n] gs q) (hb : Below W.heap.size W W') (hlt : ∀ x ∈ q, x.block < W.heap.size) (hgl : g < W.heap.size) :
    DataW.TrodVars enc P W' (fun b => decide (b < W.heap.size)) [n] gs q := by
  obtain ⟨g', t', cs, fuel, d, p, rfl, h1, h2, h3, h4, rfl⟩ := trodVars_one hV
  obtain rfl := Option.some.inj (hg.symm.trans h1)
  obtain rfl := Option.some.inj (ht.symm.trans h2)
  obtain rfl := Option.some.inj (hvar.symm.trans h3)
  have hT : DataW.Trod enc P W 0 (fun _ => true) true t v d p := ⟨fuel, by rw [hcell]; exact h4⟩
  obtain ⟨f2, h5⟩ := Below.trod hl hr hrow hT hb (fun x hx => hlt x (List.mem_append_right _ hx))
  exact trodVars_mk1 hg ht (var?_below hb hg hgl hvar) (by rw [hcell] at h5; exact h5)

theorem law_walk (a0 : Option Addr) (n cap : Nat) (how : Int) (w : World) (hh : (Lit.int .u8 how).wf = true) (hT : TabAt w) (hc : ∀ k, k < n → ∃ b off fn d pt, a0 = some ⟨b, off, none⟩ ∧ SpecAt w b off k fn d pt) :
    Calls Ybad.prog 3 #[.slice a0 n cap, .int .u8 how] w fun e w' => e = .returned (.bool true) ∧ Below w.heap.size w w' := by
  rcases Nat.lt_or_ge 1024 n with h | h
  · exact law_big a0 n cap how w h
  · exact law_some a0 n cap how w h (bounds_u8 hh) hT hc

set_option maxRecDepth 100000 in
theorem lifted (os : Os) (started : os.Started) (H : Type) (enc : TypeId × Value → H) :
    ReturnsInHanded {} Ybad.checked os 3 .any (fun w args => (Rows.lawS3741CEmptyPathsSpec.pre enc Ybad.prog Ybad.f3 Rows.lawS3741CEmptyPathsRow.domain false w args ∧ laidMetH Ybad.prog Rows.lawS3741CEmptyPathsRow.laid w) ∧ sizedMet enc Ybad.prog Ybad.f3 (OpenSpec.ofChange Rows.lawS3741CEmptyPathsSpec) false w args)
      (Rows.lawS3741CEmptyPathsSpec.post enc Ybad.prog Ybad.f3 false true false false) := by
  refine returnsInHanded_of_change_and (C := Ybad.checked) (X := fun w _ => laidMetH Ybad.prog Rows.lawS3741CEmptyPathsRow.laid w) (fun _ _ _ hh h => h.of_heap hh) own started (by kernel_rfl) Ybad.func3
    (ChangeSpec.witness_shaped (enc := enc) (C := Ybad.checked) (os := os) (X := fun w _ => laidMetH Ybad.prog Rows.lawS3741CEmptyPathsRow.laid w) false (laidWorldOf Ybad.prog os 98 (World.holding Ybad.prog default ⟨#[], #[], []⟩).heap.size 0 9 tabCells) #[.slice none 0 0, .int .u8 0] 8 rfl (World.shaped_of_RefB (by kernel_rfl) (by kernel_rfl)) (by kernel_rfl) (by kernel_rfl) (by kernel_rfl) (laid_met os _)) ?_
  intro W base args ds gs before hval0 hW _ _ hL _
  have hval : ∀ (j : Nat) t v, Ybad.f3.params[j]? = some t → args[j]? = some v → Value.okWide Ybad.prog W .any base t v := hval0
  have hW' := hW
  obtain ⟨p, q, hA0, hV0, rfl, hfz, hnd⟩ := hW
  have hA : DataW.TrodAll enc Ybad.prog W 0 (fun _ => true) true Ybad.f3.params.toList args.toList ds p := hA0
  have hV : DataW.TrodVars enc Ybad.prog W (fun _ => true) [tabName] gs q := hV0
  rw [Ybad.params3] at hA hval
  obtain ⟨v0, v1, d0, d1, p0, p1, rfl, rfl, rfl, h0, h1⟩ := trodAll_two hA
  obtain ⟨a0, len, cap, rfl⟩ := okWide_slice Ybad.underlying22 (hval 0 22 v0 rfl rfl)
  obtain ⟨how, rfl, rfl, rfl, wh⟩ := open_int Ybad.underlying5 (hval 1 5 v1 rfl rfl) h1
  clear hA0 hV0 hval0
  have hT := tab_of_laid hL
  obtain ⟨g', t', cs, fuel, dg, pg, rfl, h1, h2, h3, h4, _⟩ := trodVars_one hV
  have hvar : ∃ v, W.var? Ybad.prog tabName = some #[v] ∧ v.cells = #[v] := by
    obtain rfl := Option.some.inj (gT.symm.trans h1)
    obtain rfl := Option.some.inj (gTType.symm.trans h2)
    rcases Deep.open_slice Ybad.underlying99 h4 with ⟨hcs, _⟩ | ⟨a, len, cap, m, n, D, Pl, hcs, _⟩
    · obtain ⟨l⟩ := cs; simp only at hcs; subst hcs; exact ⟨_, h3, rfl⟩
    · obtain ⟨l⟩ := cs; simp only at hcs; subst hcs; exact ⟨_, h3, rfl⟩
  obtain ⟨vt, hvar, hvc⟩ := hvar
  have h0W : 0 < W.heap.size := by obtain ⟨T, o, c, hc, _⟩ := hT; exact World.block_lt_of_cell? _ _ hc
  have hltp : ∀ x ∈ p0, x.block < W.heap.size := fun x hx => hW'.lt x (by simp [hx])
  have hltq : ∀ x ∈ q, x.block < W.heap.size := fun x hx => hW'.lt x (by simp [hx])
  refine (law_walk a0 len cap how W wh hT (specs_of h0)).mono fun e W' ⟨he, bel⟩ => ?_
  subst he
  exact ⟨_, rfl, _, _, _, [], p0 ++ [], q, hW', trodAll_mk1 (shut_bool Ybad.underlying4 _), trodAll_mk2 (Below.trod laidOut (by kernel_rfl) (of_decide_eq_true (by kernel_rfl)) h0 bel hltp) (shut_int Ybad.underlying5 wh),
    vars_below1 laidOut (by kernel_rfl) (of_decide_eq_true (by kernel_rfl)) gT gTType hvar hvc hV bel hltq h0W, bel.frame _, fun h => by cases h⟩

theorem row_holds : Rows.LawS3741CEmptyPathsSaid :=
  OpenClaim.holds_of_wide 3 Ybad.f3 rfl rfl rfl rfl rfl rfl rfl ⟨rfl, rfl, rfl, rfl, rfl⟩ rfl rfl rfl rfl rfl (by kernel_rfl) Ybad.func3 (by kernel_rfl)
    (of_decide_eq_true (by kernel_rfl)) (by unfold Func.isWrapper; first | (rw [if_pos (by decide +kernel)]; kernel_rfl) | (rw [if_neg (by decide +kernel)]; exact ⟨rfl, rfl⟩))
    (fun os started H enc _ => lifted os started H enc)

theorem proved : Rows.LawS3741CEmptyPathsCardSaid :=
  Claim7.holds_tied_plain_at .later [] [.data] true (true, "b5b62c0aa68ee0e9707bf9d57cdeb0783c91f720a7a9675fc8d183fb429ad903") false
    row_holds (fun _ h => by cases h) (by kernel_rfl) (fun _ h => by cases h) lawS3741CEmptyPaths_row_tie rfl ⟨rfl, rfl⟩ (by kernel_rfl) rfl
    (fun f fn hf hfn => by
      obtain rfl : f = 3 := Option.some.inj ((show Ybad.prog.funcNamed Rows.lawS3741CEmptyPathsRow.func = some 3 by kernel_rfl).symm.trans hf) |>.symm
      obtain rfl : fn = Ybad.f3 := (Option.some.inj (Ybad.func3.symm.trans hfn)).symm
      exact ⟨by kernel_rfl, fun j t ht => by
        rw [Ybad.params3] at ht
        have h3 : t = 22 ∨ t = 5 := by
          rcases j with _ | _ | j
          · left; simpa using ht.symm
          · right; simpa using ht.symm
          · simp at ht
        rcases h3 with rfl | rfl
        · exact (show Ybad.prog.wantsStandIn 22 = false by kernel_rfl)
        · exact (show Ybad.prog.wantsStandIn 5 = false by kernel_rfl)⟩)
    (by kernel_rfl)
end Go.Proofs.YbulkbylkDoor
