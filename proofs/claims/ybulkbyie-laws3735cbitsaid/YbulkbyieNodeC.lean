import Derived.Test.YbulkbyieNodeB
namespace Go.Proofs.Ybulkbyie
open Go.RowKit

theorem opt_len (zs : List Int) (n : Nat) : (optCells zs n).length = n * 3 := by
  induction n with
  | zero => rfl
  | succ n ih => simp [optCells, ih]; omega

theorem opt_at (zs : List Int) (n k : Nat) (h : k < n) : (optCells zs n)[k * 3]? = some (.int .u8 (IntKind.u8.wrap k)) ∧ (optCells zs n)[k * 3 + 1]? = some (.int .u8 (zs.getD k 0)) ∧ (optCells zs n)[k * 3 + 2]? = some (.slice none 0 0) := by
  induction n with
  | zero => omega
  | succ n ih =>
    have hl := opt_len zs n
    by_cases hk : k < n
    · obtain ⟨a, b, c⟩ := ih hk
      simp only [optCells]
      rw [List.getElem?_append_left (by omega), List.getElem?_append_left (by omega), List.getElem?_append_left (by omega)]
      exact ⟨a, b, c⟩
    · have : k = n := by omega
      subst this
      simp only [optCells]
      rw [List.getElem?_append_right (by omega), List.getElem?_append_right (by omega), List.getElem?_append_right (by omega), hl]
      simp

/-- The three cells of each option. -/
theorem opts_cells {W : World} {base g n cp : Nat} {zs : List Int} (hown : W.ownsRow base 75 3 (.slice (some ⟨g, 0, none⟩) n cp) n (optCells zs n)) :
    ∀ k, k < n → W.cell? ⟨g, k * 3, none⟩ = some (.int .u8 (IntKind.u8.wrap k)) ∧ W.cell? ⟨g, k * 3 + 1, none⟩ = some (.int .u8 (zs.getD k 0)) ∧ W.cell? ⟨g, k * 3 + 2, none⟩ = some (.slice none 0 0) := by
  intro k hk
  obtain ⟨a, b, c⟩ := opt_at zs n k hk
  exact ⟨(hown.cellAt _ (by omega)).trans a, (hown.cellAt _ (by omega)).trans b, (hown.cellAt _ (by omega)).trans c⟩

/-- stateless over what zzs3735cmsg has built. -/
theorem stateless_built {W : World} {base g n cp B : Nat} {zs : List Int} {tid : Int} (hn : n ≤ 1024) (hz : n ≤ zs.length)
    (hown : W.ownsRow base 75 3 (.slice (some ⟨g, 0, none⟩) n cp) n (optCells zs n)) (hm : MsgAt W B tid (.slice (some ⟨g, 0, none⟩) n cp)) :
    Calls Yba.prog 15 #[.pointer (some ⟨B, 0, none⟩)] W fun e w' => e = .returned (.bool ((zs.take n).any hit)) ∧ Below W.heap.size W w' := by
  have hc := opts_cells hown
  refine stateless_any B n cp g ((List.range n).map fun k : Nat => IntKind.u8.wrap (k : Int)) (zs.take n) W hn (by simp; omega) hm.2.2.2.1 (fun k hk => ?_) (fun k hk => ?_) (fun k hk => (hc k hk).2.2)
  · rw [(hc k hk).1]; simp [hk]
  · rw [(hc k hk).2.1]; simp [hk]
end Go.Proofs.Ybulkbyie
