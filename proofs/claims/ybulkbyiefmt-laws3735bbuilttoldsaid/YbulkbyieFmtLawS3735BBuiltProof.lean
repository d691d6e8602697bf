import Derived.Test.YbulkbyieFmtRowKit
import Derived.Test.YbulkbyieFmtWalkB
namespace Go.Proofs.YbulkbyieFmt
open Go.ChangeShapes Go.WideShapes Go.ChangeAt Go.RowKit Go.Kit
open Go.Extern.Stop Go.Stop Go.Extern
namespace LawBuilt

/-- A slice of bytes that reads as data, as the walk asks it. -/
theorem row_of {H : Type} {enc : TypeId × Value → H} {W : World} {a0 : Option Addr} {len cap : Nat} {d : DataW H} {p : List MemPlace}
    (h0 : DataW.Trod enc Ybaf.prog W 0 (fun _ => true) true 22 (.slice a0 len cap) d p) : ∃ zs, IsRow W a0 len cap zs := by
  obtain ⟨fuel, hf⟩ := h0
  rcases open_ints Ybaf.underlying22 Ybaf.underlying5 cells5 hf with ⟨hcs, _⟩ | ⟨x, l, c, zs, hcs, _, hl, hm, hz, _, hcell, hwz⟩
  · simp [Value.cells] at hcs
    obtain ⟨rfl, rfl, rfl⟩ := hcs
    exact ⟨[], .inl ⟨rfl, rfl, rfl, rfl⟩⟩
  · simp [Value.cells] at hcs
    obtain ⟨rfl, rfl, rfl⟩ := hcs
    exact ⟨zs, .inr ⟨_, rfl, hl, hm, by simpa using hz, hcell, hwz⟩⟩

set_option maxRecDepth 100000 in
theorem lifted (os : Os) (started : os.Started) (H : Type) (enc : TypeId × Value → H) :
    ReturnsInTold none {} Ybaf.checked os 4 .any Input.okWide ((OpenSpec.ofChange Rows.lawS3735BBuiltSpec).preRow enc Ybaf.prog Ybaf.f4 Rows.lawS3735BBuiltRow.domain false Rows.lawS3735BBuiltRow.laid) (fun F => ((OpenSpec.ofChange Rows.lawS3735BBuiltSpec).at F).post enc Ybaf.prog Ybaf.f4 false true false false) (aloneAtReturn Ybaf.prog) nothingAlways := by
  refine returnsInTold_of_row (C := Ybaf.checked) (s := OpenSpec.ofChange Rows.lawS3735BBuiltSpec) (by kernel_rfl) own started (by kernel_rfl) Ybaf.func4
    (OpenSpec.witness_stopped_at (enc := enc) (C := Ybaf.checked) false (laidWorldOf Ybaf.prog os 44 46 (World.holding Ybaf.prog default ⟨#[], #[], []⟩).heap.size 0 shortS) #[.slice none 0 0, .slice none 0 0] rfl (by kernel_rfl) (by kernel_rfl) (by kernel_rfl)
      (OpenSpec.preRow_of_B rfl 8 (by kernel_rfl) (by kernel_rfl) (laidS_met os _))) ?_
  intro F W base args ds gs before _ hF hval0 hW _ _ _ hL _
  have hval : ∀ (j : Nat) t v, Ybaf.f4.params[j]? = some t → args[j]? = some v → Value.okWide Ybaf.prog W .any base t v := hval0
  have hW' := hW
  obtain ⟨p, q, hA0, hV0, rfl, hfz, hnd⟩ := hW
  have hA : DataW.TrodAll enc Ybaf.prog W 0 (fun _ => true) true Ybaf.f4.params.toList args.toList ds p := hA0
  have hV : DataW.TrodVars enc Ybaf.prog W (fun _ => true) [shortName] gs q := hV0
  rw [Ybaf.params4] at hA hval
  obtain ⟨v0, v1, d0, d1, p0, p1, rfl, rfl, rfl, h0, h1⟩ := trodAll_two hA
  obtain ⟨a0, len, cap, rfl⟩ := okWide_slice Ybaf.underlying22 (hval 0 22 v0 rfl rfl)
  obtain ⟨b0, len1, cap1, rfl⟩ := okWide_slice Ybaf.underlying22 (hval 1 22 v1 rfl rfl)
  have h0k := h0
  have h1k := h1
  obtain ⟨a1, s1, hv1, hc1, hs1, hz1⟩ := laid_sentinel (n := shortName) hL gS gSType Ybaf.underlying25 row44 Ybaf.underlying44 Ybaf.underlying46 rfl rfl Ybaf.underlying9 cells46 cells9
  obtain ⟨rfl, rfl⟩ := hV.unique (vars_read1 enc gS gSType Ybaf.underlying25 hv1 trivial _)
  clear hA0 hV0 hval0
  have hg1 : W.cell? ⟨0, 0, none⟩ = some (.iface 44 (.pointer (some a1))) := by simpa using World.var?_cell gS hv1 0
  have hltp : ∀ x ∈ p0 ++ p1, x.block < W.heap.size := fun x hx => hW'.lt x (List.mem_append_left _ hx)
  obtain ⟨zs, w0⟩ := row_of h0
  obtain ⟨zt, w1⟩ := row_of h1
  refine (built_walk F.told a0 b0 len cap len1 cap1 zs zt a1 W hF hg1 w0 w1).mono fun e W' ⟨he, bel⟩ => ?_
  subst he
  exact ⟨_, rfl, _, _, _, [], p0 ++ p1, [.cell 0 0], hW', trodAll_mk1 (shut_bool Ybaf.underlying4 _), trodAll_mk2 (Below.trod laidOut' (by kernel_rfl) (of_decide_eq_true (by kernel_rfl)) h0k bel (fun x hx => hltp x (List.mem_append_left _ hx))) (Below.trod laidOut' (by kernel_rfl) (of_decide_eq_true (by kernel_rfl)) h1k bel (fun x hx => hltp x (List.mem_append_right _ hx))),
    vars_read1 enc gS gSType Ybaf.underlying25 (var?_below bel gS (World.block_lt_of_cell? _ _ hg1) hv1) trivial _, bel.frame _, fun h => by cases h⟩

theorem proved : Rows.LawS3735BBuiltToldSaid :=
  Claim7.holds_of_told_tied_any_at .later 4 Ybaf.f4 "fmt.errorf" [] [] _ _ _ _ _ (by kernel_rfl) rfl rfl rfl laidOut (by kernel_rfl) rfl ⟨rfl, rfl, rfl, rfl, rfl, rfl, rfl⟩ rfl rfl (by kernel_rfl) (by kernel_rfl) Ybaf.func4 (by kernel_rfl)
    (of_decide_eq_true (by kernel_rfl)) (of_decide_eq_true (by kernel_rfl)) stops.symm rfl stopKnobs.symm (by kernel_rfl)
    (by kernel_rfl) (by kernel_rfl) (by kernel_rfl) (by kernel_rfl) (by kernel_rfl) (by kernel_rfl) (by kernel_rfl) (by kernel_rfl) (by kernel_rfl) rfl (by kernel_rfl) rfl rfl
    rfl rfl
    rfl (by kernel_rfl) (by kernel_rfl) (by kernel_rfl) (by decide) (by kernel_rfl) lawS3735BBuilt_row_tie
    (OpenClaim.moreEntering_of (by kernel_rfl) (by kernel_rfl) (by kernel_rfl) (by kernel_rfl) (by kernel_rfl) (by kernel_rfl) (by kernel_rfl) (by kernel_rfl) (by kernel_rfl) (by kernel_rfl))
    ⟨_, WideRow.started_initial, quiet _⟩
    (fun os started _ H enc _ => lifted os started H enc)
end LawBuilt
end Go.Proofs.YbulkbyieFmt
