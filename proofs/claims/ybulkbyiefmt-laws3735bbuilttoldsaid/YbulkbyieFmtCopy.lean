import Derived.Test.YbulkbyieFmtParse
import Derived.StillTactics
import Derived.OwnWalk
import Derived.Laws.CopyOwn
import Derived.KernelRfl
namespace Go.Proofs.YbulkbyieFmt
open Go.RowKit

theorem info5 : (Ybaf.prog.info? 5).map (fun i => (i.zero, i.size, i.bytes)) = some (some (.int .u8 0), 1, 1) := by kernel_rfl
theorem size5 : (Ybaf.prog.info? 5).map (·.size) = some 1 := by kernel_rfl

theorem copy_nil (w : World) : Calls Ybaf.prog 6 #[.slice none 0 0] w fun e w' => e = .returned (.slice none 0 0) ∧ w' = w := by
  have hne := fun (w : World) => Lib.run_eql_slice_nil (P := Ybaf.prog) w 22 5 none 0 0 0 0 Ybaf.underlying22
  go_enter Ybaf.func6, Ybaf.ntmps6
  go_wp2
  go_ret
  exact ⟨rfl, rfl⟩

theorem own_block {w : World} {base g n : Nat} {xs : List Value} (h : w.ownsRow base 5 1 (.slice (some ⟨g, 0, none⟩) n n) n xs) : w.heap[g]? = some (.cells xs.toArray 5 (0, 0)) ∧ base ≤ g ∧ xs.length = n := by
  obtain ⟨h1, h2⟩ := h
  rcases h2 with ⟨h2, _⟩ | ⟨g', cap, cur, hv, hg, hh, _, _, hs, ht⟩
  · simp at h2
  · simp at hv
    obtain ⟨rfl, rfl⟩ := hv
    refine ⟨?_, hg, by simpa using h1⟩
    rw [hh]
    have : cur.toList = xs := by rw [← ht, List.take_of_length_le (by simp; omega)]
    rw [← this]

theorem splice_all {α : Type} (L cs : List α) (h : L.length = cs.length) : splice L 0 cs = cs := by
  simp [splice, h]

set_option maxRecDepth 100000 in
set_option maxHeartbeats 800000 in
theorem copy_any (x : Addr) (n cap : Nat) (zs : List Int) (w : World) (hn : n ≤ 4000000) (hz : n ≤ zs.length)
    (hc : ∀ k, k < n → w.cell? (x.add k) = some (.int .u8 (zs.getD k 0))) :
    Calls Ybaf.prog 6 #[.slice (some x) n cap] w fun e w' => e = .returned (.slice (some ⟨w.heap.size, 0, none⟩) n n) ∧ Below w.heap.size w w' ∧ w'.heap[w.heap.size]? = some (.cells ((zs.take n).map (Value.int .u8)).toArray 5 (0, 0)) := by
  have hne := fun (w : World) => Lib.run_eql_slice_nil (P := Ybaf.prog) w 22 5 (some x) n cap 0 0 Ybaf.underlying22
  obtain ⟨i0, hi0, hz0, hz1, hz2⟩ := info_parts info5
  obtain ⟨cs, hcs⟩ : ∃ cs, cs = (zs.take n).map (Value.int .u8) := ⟨_, rfl⟩
  have hcl : cs.length = n := by rw [hcs]; simp; omega
  have HC : Hid (cs = (zs.take n).map (Value.int .u8)) := hcs
  have HL : Hid (cs.length = n) := hcl
  have HS : Hid (∀ j v, cs[j]? = some v → w.cell? (x.add j) = some v) := by
    intro j v hv
    have hj : j < n := by rw [← hcl]; exact (List.getElem?_eq_some_iff.1 hv).1
    rw [hc j hj]
    rw [hcs] at hv
    have hjz : j < zs.length := by omega
    simp [hj, hjz] at hv ⊢
    exact hv
  have H1 : Hid (∀ v ∈ cs, v.oneCell' = true) := by rw [hcs]; exact ints_oneCell _ _
  clear hcs hcl hc
  go_enter Ybaf.func6, Ybaf.ntmps6
  go_wp2_with (first | (at_make; refine wpList_make_full _ rfl _ _ 22 rfl w.heap.size 5 i0 _ 1 Ybaf.underlying22 hi0 hz0 hz1 _ _ _ _ n rfl rfl (by omega) (by omega) (by rw [hz2]; omega) (by unfold maxLen; omega) (Nat.le_refl _) ?_; intro w1 hown1 hgrow1; have HO := own_block hown1; have hb1 : Below w.heap.size w w1 := (Below.refl _ _).grown hgrow1 (Nat.le_refl _) (by simp); have HH : Hid (w1.heap[w.heap.size]? = some (.cells (madeCells (Value.int IntKind.u8 0).cells (n * 1)).toList.toArray 5 (0, 0)) ∧ (madeCells (Value.int IntKind.u8 0).cells (n * 1)).toList.length = n) := ⟨HO.1, HO.2.2⟩; clear HO hown1 hgrow1) | (refine wpList_copy_splice rfl _ _ 22 22 rfl 5 Ybaf.underlying22 size5 _ _ _ _ _ _ rfl rfl w.heap.size 0 (madeCells (Value.int IntKind.u8 0).cells (n * 1)).toList 5 HH.out.1 cs (by rw [HL.out]; simp) (fun _ => ⟨rfl, x, rfl, fun j v hv => cell_later hb1 (HS.out j v hv)⟩) (by have := HH.out.2; have := HL.out; omega) H1.out w.heap.size w hb1 (Nat.le_refl _) ?_; intro w2 hg2 hb2))
  go_ret
  refine ⟨rfl, hb2, ?_⟩
  have e := hg2.out
  rw [splice_all _ _ (by rw [HL.out]; exact HH.out.2), HC.out] at e
  exact e

theorem row_cells {W : World} {g : Nat} {zs : List Int} {n : Nat} (hz : n ≤ zs.length) (h : W.heap[g]? = some (.cells ((zs.take n).map (Value.int .u8)).toArray 5 (0, 0))) :
    ∀ k, k < n → W.cell? ⟨g, k, none⟩ = some (.int .u8 (zs.getD k 0)) := by
  intro k hk
  rw [cell_of_row W g k _ 5 (0, 0) h]
  simp [hk, show k < zs.length by omega]

set_option maxRecDepth 100000 in
set_option maxHeartbeats 800000 in
theorem same_any (b1 o1 c1 b2 o2 c2 n : Nat) (zs : List Int) (w : World) (hn : n ≤ 4000000)
    (h1 : ∀ k, k < n → w.cell? ⟨b1, o1 + k, none⟩ = some (.int .u8 (zs.getD k 0))) (h2 : ∀ k, k < n → w.cell? ⟨b2, o2 + k, none⟩ = some (.int .u8 (zs.getD k 0))) :
    Calls Ybaf.prog 8 #[.slice (some ⟨b1, o1, none⟩) n c1, .slice (some ⟨b2, o2, none⟩) n c2] w fun e w' => e = .returned (.bool true) ∧ Below w.heap.size w w' := by
  go_enter Ybaf.func8, Ybaf.ntmps8
  go_wp2
  go_loopw [5] (fun i wr => ∃ k : Nat, k ≤ n ∧ i = .int .i64 k ∧ Below w.heap.size w wr) (fun i _ => n - (intOf i).toNat)
  case atStart => exact ⟨0, Nat.zero_le _, rfl, Below.refl _ _⟩
  case round =>
    obtain ⟨k, hk, rfl, hb⟩ := hrel
    by_cases hlt : k < n
    · have e1 := cell_later hb (h1 k hlt)
      have e2 := cell_later hb (h2 k hlt)
      have k0 : (0 : Int) ≤ (k : Int) := Int.natCast_nonneg _
      have k1 : (k : Int) < (n : Int) := by omega
      clear h1 h2
      go_wp2
      go_quiet (fail)
      go_wp2
      go_roundw
      case rel => exact ⟨k + 1, by omega, by go_num, hb.trans ⟨rfl, rfl, rfl, Nat.le_refl _, fun _ _ => rfl⟩⟩
      case measure => simp [intOf]; omega
    · clear h1 h2
      go_wp2
      go_ret
      exact ⟨rfl, hb⟩

theorem same_zero (a1 a2 : Option Addr) (c1 c2 : Nat) (w : World) :
    Calls Ybaf.prog 8 #[.slice a1 0 c1, .slice a2 0 c2] w fun e w' => e = .returned (.bool true) ∧ Below w.heap.size w w' := by
  go_enter Ybaf.func8, Ybaf.ntmps8
  go_wp2
  refine wp_loop_rounds 1 ?_
  rw [rounds_succ]
  go_wp2
  go_ret
  exact ⟨rfl, Below.refl _ _⟩

end Go.Proofs.YbulkbyieFmt
