import Derived.Test.YbulkbyieNodeA
import Derived.StillTactics
import Derived.OwnWalk
import Derived.Laws.Pointers
import Derived.Deep.RegionLaw
import Derived.Deep.AppendLies
import Derived.KernelRfl
namespace Go.Proofs.Ybulkbyie
open Go.RowKit

theorem Yba.info75 : (Yba.prog.info? 75).map (fun i => (i.zero, i.size, i.bytes)) = some (some (.agg #[.int .u8 0, .int .u8 0, .slice none 0 0]), 3, 32) := by kernel_rfl

def optCells (zs : List Int) : Nat → List Value
  | 0 => []
  | k + 1 => optCells zs k ++ [.int .u8 (IntKind.u8.wrap k), .int .u8 (zs.getD k 0), .slice none 0 0]

def MsgAt (W : World) (B : Nat) (tid : Int) (v : Value) : Prop :=
  W.cell? ⟨B, 2, none⟩ = some (.int .u8 7) ∧ W.cell? ⟨B, 3, none⟩ = some (.int .u64 tid) ∧ W.cell? ⟨B, 8, none⟩ = some (.int .u16 1) ∧ W.cell? ⟨B, 7, none⟩ = some v ∧ W.frozen? ⟨B, 7, none⟩ = false

theorem msg_store {W : World} {B : Nat} {tid : Int} {v : Value} (c2 : W.cell? ⟨B, 2, none⟩ = some (.int .u8 7)) (c3 : W.cell? ⟨B, 3, none⟩ = some (.int .u64 tid)) (c8 : W.cell? ⟨B, 8, none⟩ = some (.int .u16 1)) (c7 : W.cell? ⟨B, 7, none⟩ = some v) (f7 : W.frozen? ⟨B, 7, none⟩ = false) (u : Value) : MsgAt (W.setCell ⟨B, 7, none⟩ u) B tid u := by
  refine ⟨?_, ?_, ?_, World.cell?_setCell_same _ _ _ c7, ?_⟩
  · rw [World.cell?_setCell_other _ _ _ _ (by simp)]; exact c2
  · rw [World.cell?_setCell_other _ _ _ _ (by simp)]; exact c3
  · rw [World.cell?_setCell_other _ _ _ _ (by simp)]; exact c8
  · simpa using f7

theorem after_append {w wr w2 : World} {B g k cp : Nat} {tid : Int} {o : Obj} {v : Value} (hsz : B < wr.heap.size) (hg : B + 1 ≤ g) (hgrow : (wr.alloc o).drew.grownBy w2 (Value.slice (some ⟨g, 0, none⟩) k cp).ownBlock)
    (c2 : wr.cell? ⟨B, 2, none⟩ = some (.int .u8 7)) (c3 : wr.cell? ⟨B, 3, none⟩ = some (.int .u64 tid)) (c8 : wr.cell? ⟨B, 8, none⟩ = some (.int .u16 1)) (c7 : wr.cell? ⟨B, 7, none⟩ = some v) (f7 : wr.frozen? ⟨B, 7, none⟩ = false) (hbel : Below B w wr) :
    w2.cell? ⟨B, 2, none⟩ = some (.int .u8 7) ∧ w2.cell? ⟨B, 3, none⟩ = some (.int .u64 tid) ∧ w2.cell? ⟨B, 8, none⟩ = some (.int .u16 1) ∧ w2.cell? ⟨B, 7, none⟩ = some v ∧ w2.frozen? ⟨B, 7, none⟩ = false ∧ Below B w w2 ∧ B < w2.heap.size := by
  have hlt : ∀ j, (⟨B, j, none⟩ : Addr).block < (wr.alloc o).drew.heap.size := fun j => by simp; omega
  have hne : some B ≠ (Value.slice (some ⟨g, 0, none⟩) k cp).ownBlock := by simp [Value.ownBlock]; omega
  have hc : ∀ j, w2.cell? ⟨B, j, none⟩ = wr.cell? ⟨B, j, none⟩ := fun j => (hgrow.cell_far _ (hlt j) hne).trans (World.cell?_alloc_past _ _ _ hsz)
  have hf : ∀ j, w2.frozen? ⟨B, j, none⟩ = wr.frozen? ⟨B, j, none⟩ := fun j => (hgrow.frozen_far _ (hlt j) hne).trans (World.frozen?_alloc_past _ _ _ hsz)
  refine ⟨(hc 2).trans c2, (hc 3).trans c3, (hc 8).trans c8, (hc 7).trans c7, (hf 7).trans f7, ?_, ?_⟩
  · exact ((hbel.alloc (by omega) o).drew).grown hgrow (by simp; omega) (fun q hq => by simp [Value.ownBlock] at hq; omega)
  · have := hgrow.size
    simp at this
    omega

theorem msg_next {w w2 : World} {B gg k cp : Nat} {tid : Int} {v : Value} {xs : List Value}
    (F : w2.cell? ⟨B, 2, none⟩ = some (.int .u8 7) ∧ w2.cell? ⟨B, 3, none⟩ = some (.int .u64 tid) ∧ w2.cell? ⟨B, 8, none⟩ = some (.int .u16 1) ∧ w2.cell? ⟨B, 7, none⟩ = some v ∧ w2.frozen? ⟨B, 7, none⟩ = false ∧ Below B w w2 ∧ B < w2.heap.size)
    (hown : w2.ownsRow (B + 1) 75 3 (.slice (some ⟨gg, 0, none⟩) (k + 1) cp) (k + 1) xs) :
    B + 1 ≤ gg ∧ B + 1 ≤ (w2.setCell ⟨B, 7, none⟩ (.slice (some ⟨gg, 0, none⟩) (k + 1) cp)).heap.size ∧
      (w2.setCell ⟨B, 7, none⟩ (.slice (some ⟨gg, 0, none⟩) (k + 1) cp)).ownsRow (B + 1) 75 3 (.slice (some ⟨gg, 0, none⟩) (k + 1) cp) (k + 1) xs ∧
      MsgAt (w2.setCell ⟨B, 7, none⟩ (.slice (some ⟨gg, 0, none⟩) (k + 1) cp)) B tid (.slice (some ⟨gg, 0, none⟩) (k + 1) cp) ∧
      Below B w (w2.setCell ⟨B, 7, none⟩ (.slice (some ⟨gg, 0, none⟩) (k + 1) cp)) := by
  obtain ⟨c2, c3, c8, c7, f7, hb, hs⟩ := F
  refine ⟨?_, by simp; omega, ownsRow_setCell_below hown (by simp) _, msg_store c2 c3 c8 c7 f7 _, hb.setCell (Nat.le_refl _) _⟩
  obtain ⟨g, c, hv, hg, _⟩ := hown.form (by omega)
  simp at hv
  omega

set_option maxRecDepth 100000 in
set_option maxHeartbeats 800000 in
theorem msg_any (b off n cap : Nat) (zs : List Int) (tid : Int) (w : World) (hn : n ≤ 1024) 
    (hc : ∀ k, k < n → w.cell? ⟨b, off + k, none⟩ = some (.int .u8 (zs.getD k 0))) :
    Calls Yba.prog 14 #[.slice (some ⟨b, off, none⟩) n cap, .int .u64 tid] w fun e w' => e = .returned (.pointer (some ⟨w.heap.size, 0, none⟩)) ∧ Below w.heap.size w w' ∧
      ∃ g cp, w'.ownsRow (w.heap.size + 1) 75 3 (.slice (some ⟨g, 0, none⟩) n cp) n (optCells zs n) ∧ MsgAt w' w.heap.size tid (.slice (some ⟨g, 0, none⟩) n cp) := by
  have hne := fun (w : World) => run_neq_slice_nil_any (P := Yba.prog) w 22 5 (some ⟨b, off, none⟩) n cap 0 0 Yba.underlying22
  obtain ⟨i0, hi0, hz0, hz1, hz2⟩ := info_parts Yba.info75
  go_enter Yba.func14, Yba.ntmps14
  go_wp2_with (at_make; refine wpList_make_own _ rfl _ _ 65 rfl (w.heap.size + 1) 75 i0 _ 3 Yba.underlying65 hi0 hz0 hz1 _ _ _ n rfl rfl (by omega) (by rw [hz2]; omega) (by unfold maxLen; omega) (by simp) ?_; intro w1 hown1 hgrow1; have c7 := hgrow1.cell_far ⟨w.heap.size, 7, none⟩ (by simp) (by simp); have f7 := hgrow1.frozen_far ⟨w.heap.size, 7, none⟩ (by simp) (by simp); have c2 := hgrow1.cell_far ⟨w.heap.size, 2, none⟩ (by simp) (by simp); have c3 := hgrow1.cell_far ⟨w.heap.size, 3, none⟩ (by simp) (by simp);  have c8 := hgrow1.cell_far ⟨w.heap.size, 8, none⟩ (by simp) (by simp); have hb1 : Below w.heap.size w w1 := ((Below.refl _ _).alloc (Nat.le_refl _) _).grown hgrow1 (by simp) (by simp); clear hgrow1; simp at c7 f7 c2 c3 c8 hown1)
  have hst : MsgAt (w1.setCell ⟨w.heap.size, 7, none⟩ (.slice (some ⟨w.heap.size + 1, 0, none⟩) 0 n)) w.heap.size tid (.slice (some ⟨w.heap.size + 1, 0, none⟩) 0 n) := msg_store c2 c3 c8 c7 f7 _
  have hown2 := ownsRow_setCell_below hown1 (a := ⟨w.heap.size, 7, none⟩) (by simp) (.slice (some ⟨w.heap.size + 1, 0, none⟩) 0 n)
  have hb2 := hb1.setCell (p := ⟨w.heap.size, 7, none⟩) (Nat.le_refl _) (.slice (some ⟨w.heap.size + 1, 0, none⟩) 0 n)
  have hsz : w.heap.size < w1.heap.size := World.block_lt_of_cell? _ _ c7
  clear c7 f7 c2 c3 c8 hown1 hb1
  go_loopw [6] (fun i wr => ∃ k g cp : Nat, k ≤ n ∧ i = .int .i64 k ∧ w.heap.size + 1 ≤ g ∧ w.heap.size + 1 ≤ wr.heap.size ∧ wr.ownsRow (w.heap.size + 1) 75 3 (.slice (some ⟨g, 0, none⟩) k cp) k (optCells zs k) ∧ MsgAt wr w.heap.size tid (.slice (some ⟨g, 0, none⟩) k cp) ∧ Below w.heap.size w wr) (fun i _ => n - (intOf i).toNat)
  case atStart => exact ⟨0, w.heap.size + 1, n, Nat.zero_le _, rfl, Nat.le_refl _, by simp; omega, hown2, hst, hb2⟩
  case round =>
    obtain ⟨k, g, cp, hk, rfl, hg, hsz, hown, hm, hbel⟩ := hrel
    clear hst hown2 hb2
    by_cases hlt : k < n
    · have e0 := cell_later hbel (hc k hlt)
      obtain ⟨c2, c3, c8, c7, f7⟩ := hm
      have hsz' : w.heap.size < wr.heap.size := hsz
      have lb := World.block_lt_of_cell? _ _ (hc k hlt)
      simp only at lb
      clear hc hne
      have hlt0 : (0 : Int) ≤ (k : Int) := Int.natCast_nonneg _
      have hlt' : (k : Int) < (n : Int) := by omega
      go_wp2_with fail
      go_region_law ((refine step_append_lies _ (by rfl) _ _ _ (by rfl) (w.heap.size + 1) 75 i0 _ 3 32 Yba.underlying65 hi0 hz0 hz1 hz2 rfl (by omega) (.slice (some ⟨g, 0, none⟩) k cp) k (optCells zs k) (by rfl) ((hown.alloc _).drew) ⟨wr.heap.size, 0, none⟩ 1 1 [.int .u8 (IntKind.u8.wrap k), .int .u8 (zs[k]?.getD 0), .slice none 0 0] (by rfl) (by rfl) (World.news_of_block (cs := #[.int .u8 (IntKind.u8.wrap k), .int .u8 (zs[k]?.getD 0), .slice none 0 0]) (t := 75) (fr := (0, 0)) (heap_alloc_new wr _)) (by simp [Value.oneCell']) (by omega) (by unfold maxLen; omega) (by omega) (by simp; omega) (wr.heap.size + 1) (by simp) ?_; intro gg cp' w2 hown2 hgrow hat hlt2; have F := after_append hsz' hg hgrow c2 c3 c8 c7 f7 hbel; have d7 := F.2.2.2.1; have g7 := F.2.2.2.2.1))
      all_goals
        have R := msg_next F hown2
        clear F hown2 hgrow hat hlt2 d7 g7 c2 c3 c8 c7 f7 hown hbel e0
        go_wp2
        go_roundw
        case rel => exact ⟨k + 1, gg, cp', by omega, by go_num, R.1, R.2.1, R.2.2.1, R.2.2.2.1, R.2.2.2.2⟩
        case measure => simp [intOf]; omega
    · have : k = n := by omega
      subst this
      go_wp2
      go_ret
      exact ⟨rfl, hbel, g, cp, hown, hm⟩

set_option maxRecDepth 100000 in
set_option maxHeartbeats 800000 in
theorem msg_nil (tid : Int) (w : World) :
    Calls Yba.prog 14 #[.slice none 0 0, .int .u64 tid] w fun e w' => e = .returned (.pointer (some ⟨w.heap.size, 0, none⟩)) ∧ Below w.heap.size w w' ∧
      ∃ oa cp, MsgAt w' w.heap.size tid (.slice oa 0 cp) := by
  have hne := fun (w : World) => run_neq_slice_nil_any (P := Yba.prog) w 22 5 none 0 0 0 0 Yba.underlying22
  go_enter Yba.func14, Yba.ntmps14
  go_wp2
  refine wp_loop_rounds 1 ?_
  rw [rounds_succ]
  go_wp2
  go_ret
  exact ⟨rfl, (Below.refl _ _).alloc (Nat.le_refl _) _, none, 0, by simp, by simp, by simp, by simp, by simp⟩

set_option maxRecDepth 100000 in
set_option maxHeartbeats 800000 in
theorem msg_empty (x : Addr) (cap : Nat) (tid : Int) (w : World) :
    Calls Yba.prog 14 #[.slice (some x) 0 cap, .int .u64 tid] w fun e w' => e = .returned (.pointer (some ⟨w.heap.size, 0, none⟩)) ∧ Below w.heap.size w w' ∧
      ∃ oa cp, MsgAt w' w.heap.size tid (.slice oa 0 cp) := by
  have hne := fun (w : World) => run_neq_slice_nil_any (P := Yba.prog) w 22 5 (some x) 0 cap 0 0 Yba.underlying22
  obtain ⟨i0, hi0, hz0, hz1, hz2⟩ := info_parts Yba.info75
  go_enter Yba.func14, Yba.ntmps14
  go_wp2_with (at_make; refine wpList_make_own _ rfl _ _ 65 rfl (w.heap.size + 1) 75 i0 _ 3 Yba.underlying65 hi0 hz0 hz1 _ _ _ 0 rfl rfl (by simp) (by omega) (by unfold maxLen; omega) (by simp) ?_; intro w1 hown1 hgrow1; have c7 := hgrow1.cell_far ⟨w.heap.size, 7, none⟩ (by simp) (by simp); have f7 := hgrow1.frozen_far ⟨w.heap.size, 7, none⟩ (by simp) (by simp); have c2 := hgrow1.cell_far ⟨w.heap.size, 2, none⟩ (by simp) (by simp); have c3 := hgrow1.cell_far ⟨w.heap.size, 3, none⟩ (by simp) (by simp);  have c8 := hgrow1.cell_far ⟨w.heap.size, 8, none⟩ (by simp) (by simp); have hb1 : Below w.heap.size w w1 := ((Below.refl _ _).alloc (Nat.le_refl _) _).grown hgrow1 (by simp) (by simp); clear hgrow1; simp at c7 f7 c2 c3 c8 hown1)
  refine wp_loop_rounds 1 ?_
  rw [rounds_succ]
  go_wp2
  go_ret
  exact ⟨rfl, hb1.setCell (p := ⟨w.heap.size, 7, none⟩) (Nat.le_refl _) _, _, _, msg_store c2 c3 c8 c7 f7 _⟩
end Go.Proofs.Ybulkbyie
