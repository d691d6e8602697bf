import Derived.Test.YbulkbylkDoorA
import Derived.Deep.RegionWith
import Derived.Deep.RegionHeld3
namespace Go.Proofs.YbulkbylkDoor
open Go.RowKit
attribute [local go_sem] run_store_float

theorem PathAt.later {W W' : World} {p : Nat} {d : Int} (h : PathAt W p d) (hb : Below W.heap.size W W') : PathAt W' p d := by
  obtain ⟨a, b, ⟨x, c⟩, e⟩ := h
  exact ⟨cell_later hb a, cell_later hb b, ⟨x, cell_later hb c⟩, cell_later hb e⟩

/-- An expression as the law builds it. -/
def ExprAt (W : World) (p : Nat) (f d : Int) : Prop :=
  (f = 0 ∧ PathAt W p d) ∨ (f ≠ 0 ∧ W.cell? ⟨p, 0, none⟩ = some (.int .i64 f) ∧ W.cell? ⟨p, 8, none⟩ = some (.int .i64 d) ∧ ∃ q, W.cell? ⟨p, 1, none⟩ = some (.pointer (some ⟨q, 0, none⟩)) ∧ PathAt W q 0)

theorem ExprAt.later {W W' : World} {p : Nat} {f d : Int} (h : ExprAt W p f d) (hb : Below W.heap.size W W') : ExprAt W' p f d := by
  rcases h with ⟨a, h⟩ | ⟨a, h1, h2, q, h3, h4⟩
  · exact .inl ⟨a, h.later hb⟩
  · exact .inr ⟨a, cell_later hb h1, cell_later hb h2, q, cell_later hb h3, h4.later hb⟩

theorem apply_any (f : Int) (hf : okF f) (h0 : f ≠ 0) (ao : Option Addr) (c : Nat) (w : World) (h : TabAt w) :
    Calls Ybad.prog 15 #[.int .i64 f, .agg #[.float .f64 0, .string ⟨#[]⟩, .slice ao 0 c, .bool false], .int .i64 0] w fun e w' => e = .returned (.tuple #[.agg #[.float .f64 0, .string ⟨#[]⟩, .slice none 0 0, .bool false], .bool (gv f)]) ∧ Below w.heap.size w w' := by
  have hcase : (f = 1 ∨ f = 2 ∨ f = 3 ∨ f = 4 ∨ f = 7) ∨ f = 6 ∨ f = 8 ∨ f = 9 := by unfold okF at hf; omega
  rcases hcase with hr | rfl | rfl | rfl
  · have hg : gv f = false := by unfold gv; simp; omega
    rw [hg]
    exact apply_reduce f hr ao c w h
  · exact apply_count ao c w h
  · exact apply_flatten ao c w h
  · exact apply_common ao c w h

/-- A block of four cells that the call has laid, in whatever world lies behind. -/
theorem one4 {w w1 : World} {a0 a1 a2 a3 : Value} {t : TypeId} (hb : Below (w.alloc (.cells #[a0, a1, a2, a3] t)).heap.size (w.alloc (.cells #[a0, a1, a2, a3] t)) w1) :
    (w1.cell? ⟨w.heap.size, 0, none⟩ = some a0 ∧ w1.cell? ⟨w.heap.size, 1, none⟩ = some a1 ∧ w1.cell? ⟨w.heap.size, 2, none⟩ = some a2 ∧ w1.cell? ⟨w.heap.size, 3, none⟩ = some a3) ∧
    (w1.frozen? ⟨w.heap.size, 0, none⟩ = false ∧ w1.frozen? ⟨w.heap.size, 1, none⟩ = false ∧ w1.frozen? ⟨w.heap.size, 2, none⟩ = false ∧ w1.frozen? ⟨w.heap.size, 3, none⟩ = false) ∧ w.heap.size < w1.heap.size := by
  have hc : ∀ j, w1.cell? ⟨w.heap.size, j, none⟩ = #[a0, a1, a2, a3][j]? := fun j => by rw [hb.cell (p := ⟨w.heap.size, j, none⟩) (by simp)]; simp
  have hf : ∀ j, w1.frozen? ⟨w.heap.size, j, none⟩ = false := fun j => by rw [hb.frozen (p := ⟨w.heap.size, j, none⟩) (by simp)]; simp
  exact ⟨⟨hc 0, hc 1, hc 2, hc 3⟩, ⟨hf 0, hf 1, hf 2, hf 3⟩, by have := hb.size; simp at this; omega⟩

set_option maxRecDepth 100000 in
set_option maxHeartbeats 1600000 in
theorem eval_path (c how : Value) (p : Nat) (d : Int) (w : World) (h : PathAt w p d) :
    Calls Ybad.prog 12 #[c, .pointer (some ⟨p, 0, none⟩), how] w fun e w' => (∃ x, e = .returned (.tuple #[.agg #[.float .f64 0, .string ⟨#[]⟩, .slice (some x) 0 0, .bool false], .bool true])) ∧ Below w.heap.size w w' := by
  have HP : Hid (PathAt w p d) := h
  have c0 := h.1
  have hp : p < w.heap.size := World.block_lt_of_cell? _ _ c0
  clear h
  have hB := (Below.refl w.heap.size w).alloc (Nat.le_refl _) (.cells #[.float .f64 0, .string ⟨#[]⟩, .slice none 0 0, .bool false] 61)
  go_enter Ybad.func12, Ybad.ntmps12
  go_wp2_with fail
  refine (path_any c how p d _ (HP.out.later hB)).mono ?_
  rintro e w1 ⟨⟨x, rfl⟩, hb1⟩
  obtain ⟨⟨b0, b1, b2, b3⟩, ⟨q0, q1, q2, q3⟩, hz⟩ := one4 hb1
  go_wp2
  refine bodyPost_ret (v := .tuple #[.agg #[.float .f64 0, .string ⟨#[]⟩, .slice (some x) 0 0, .bool false], .bool true]) (by simp [results, Ybad.results12, go_sem, b0, b1, b2, b3]) rfl ⟨⟨_, rfl⟩, ?_⟩
  exact ((((hB.trans (hb1.mono (by simp))).setCell (p := ⟨w.heap.size, 0, none⟩) (Nat.le_refl _) _).setCell (p := ⟨w.heap.size, 1, none⟩) (Nat.le_refl _) _).setCell (p := ⟨w.heap.size, 2, none⟩) (Nat.le_refl _) _).setCell (p := ⟨w.heap.size, 3, none⟩) (Nat.le_refl _) _

theorem keep7 {W W' : World} {a b c d e f g : Addr} {u1 u2 u3 u4 u5 u6 u7 : Value} (hb : Below W.heap.size W W')
    (h : W.cell? a = some u1 ∧ W.cell? b = some u2 ∧ W.cell? c = some u3 ∧ W.cell? d = some u4 ∧ W.cell? e = some u5 ∧ W.cell? f = some u6 ∧ W.cell? g = some u7) :
    W'.cell? a = some u1 ∧ W'.cell? b = some u2 ∧ W'.cell? c = some u3 ∧ W'.cell? d = some u4 ∧ W'.cell? e = some u5 ∧ W'.cell? f = some u6 ∧ W'.cell? g = some u7 := by
  obtain ⟨h1, h2, h3, h4, h5, h6, h7⟩ := h
  exact ⟨cell_later hb h1, cell_later hb h2, cell_later hb h3, cell_later hb h4, cell_later hb h5, cell_later hb h6, cell_later hb h7⟩

theorem far4 {W : World} {B : Nat} {v0 v1 v2 v3 : Value} {a : Addr} (h : a.block ≠ B) : ((((W.setCell ⟨B, 0, none⟩ v0).setCell ⟨B, 1, none⟩ v1).setCell ⟨B, 2, none⟩ v2).setCell ⟨B, 3, none⟩ v3).cell? a = W.cell? a := by
  have hn : ∀ j, (⟨B, j, none⟩ : Addr) ≠ a := fun j e => h (by rw [← e])
  rw [World.cell?_setCell_other _ _ _ _ (hn 3), World.cell?_setCell_other _ _ _ _ (hn 2), World.cell?_setCell_other _ _ _ _ (hn 1), World.cell?_setCell_other _ _ _ _ (hn 0)]

theorem keep7s {W : World} {B : Nat} {v0 v1 v2 v3 : Value} {a b c d e f g : Addr} {u1 u2 u3 u4 u5 u6 u7 : Value} (ha : a.block ≠ B) (hb : b.block ≠ B) (hc : c.block ≠ B) (hd : d.block ≠ B) (he : e.block ≠ B) (hf : f.block ≠ B) (hg : g.block ≠ B)
    (h : W.cell? a = some u1 ∧ W.cell? b = some u2 ∧ W.cell? c = some u3 ∧ W.cell? d = some u4 ∧ W.cell? e = some u5 ∧ W.cell? f = some u6 ∧ W.cell? g = some u7) :
    ((((W.setCell ⟨B, 0, none⟩ v0).setCell ⟨B, 1, none⟩ v1).setCell ⟨B, 2, none⟩ v2).setCell ⟨B, 3, none⟩ v3).cell? a = some u1 ∧ ((((W.setCell ⟨B, 0, none⟩ v0).setCell ⟨B, 1, none⟩ v1).setCell ⟨B, 2, none⟩ v2).setCell ⟨B, 3, none⟩ v3).cell? b = some u2 ∧
    ((((W.setCell ⟨B, 0, none⟩ v0).setCell ⟨B, 1, none⟩ v1).setCell ⟨B, 2, none⟩ v2).setCell ⟨B, 3, none⟩ v3).cell? c = some u3 ∧ ((((W.setCell ⟨B, 0, none⟩ v0).setCell ⟨B, 1, none⟩ v1).setCell ⟨B, 2, none⟩ v2).setCell ⟨B, 3, none⟩ v3).cell? d = some u4 ∧
    ((((W.setCell ⟨B, 0, none⟩ v0).setCell ⟨B, 1, none⟩ v1).setCell ⟨B, 2, none⟩ v2).setCell ⟨B, 3, none⟩ v3).cell? e = some u5 ∧ ((((W.setCell ⟨B, 0, none⟩ v0).setCell ⟨B, 1, none⟩ v1).setCell ⟨B, 2, none⟩ v2).setCell ⟨B, 3, none⟩ v3).cell? f = some u6 ∧
    ((((W.setCell ⟨B, 0, none⟩ v0).setCell ⟨B, 1, none⟩ v1).setCell ⟨B, 2, none⟩ v2).setCell ⟨B, 3, none⟩ v3).cell? g = some u7 := by
  rw [far4 ha, far4 hb, far4 hc, far4 hd, far4 he, far4 hf, far4 hg]
  exact h

set_option maxRecDepth 100000 in
set_option maxHeartbeats 1600000 in
theorem eval_func (c how : Value) (p q : Nat) (f : Int) (hf : okF f) (h0 : (f == 0) = false) (w : World) (c0 : w.cell? ⟨p, 0, none⟩ = some (.int .i64 f)) (c1 : w.cell? ⟨p, 1, none⟩ = some (.pointer (some ⟨q, 0, none⟩))) (hq : PathAt w q 0) (hT : TabAt w) :
    Calls Ybad.prog 12 #[c, .pointer (some ⟨p, 0, none⟩), how] w fun e w' => e = .returned (.tuple #[.agg #[.float .f64 0, .string ⟨#[]⟩, .slice none 0 0, .bool false], .bool (gv f)]) ∧ Below w.heap.size w w' := by
  have HQ : Hid (PathAt w q 0) := hq
  have HT : Hid (TabAt w) := hT
  have HF : Hid (okF f) := hf
  have c8 := hq.2.2.2
  have hp : p < w.heap.size := World.block_lt_of_cell? _ _ c0
  have hqq : q < w.heap.size := World.block_lt_of_cell? _ _ c8
  clear hq hT hf
  have hB := (Below.refl w.heap.size w).alloc (Nat.le_refl _) (.cells #[.float .f64 0, .string ⟨#[]⟩, .slice none 0 0, .bool false] 61)
  go_enter Ybad.func12, Ybad.ntmps12
  go_wp2_with fail
  refine (eval_path c how q 0 _ (HQ.out.later hB)).mono ?_
  rintro e w1 ⟨⟨x, rfl⟩, hb1⟩
  have hB1 : Below w.heap.size w w1 := hB.trans (hb1.mono (by simp))
  have e0 := cell_later hB1 c0
  have e1 := cell_later hB1 c1
  have e8 := cell_later hB1 c8
  obtain ⟨⟨b0, b1, b2, b3⟩, ⟨q0, q1, q2, q3⟩, hz⟩ := one4 hb1
  clear c0 c1 c8
  go_wp2_with fail
  have hA : Below w1.heap.size w1 (w1.alloc (.cells #[.float .f64 0, .string ⟨#[]⟩, .slice (some x) 0 0, .bool false] 61)) := (Below.refl _ _).alloc (Nat.le_refl _) _
  have hBA := hB1.trans (hA.mono hB1.size)
  have hp1 : p < w1.heap.size := by omega
  have hq1 : q < w1.heap.size := by omega
  go_region_held3 (fun w' => w'.cell? ⟨p, 0, none⟩ = some (.int .i64 f) ∧ w'.cell? ⟨p, 1, none⟩ = some (.pointer (some ⟨q, 0, none⟩)) ∧ w'.cell? ⟨q, 8, none⟩ = some (.int .i64 0) ∧ w'.cell? ⟨w1.heap.size, 0, none⟩ = some (.float .f64 0) ∧ w'.cell? ⟨w1.heap.size, 1, none⟩ = some (.string ⟨#[]⟩) ∧ w'.cell? ⟨w1.heap.size, 2, none⟩ = some (.slice (some x) 0 0) ∧ w'.cell? ⟨w1.heap.size, 3, none⟩ = some (.bool false))
    (first | (simp [*, World.cell?_alloc_some]; done) | exact keep7 hb2 ‹_› | exact keep7s (by simp; omega) (by simp; omega) (by simp; omega) (by simp; omega) (by simp; omega) (by simp; omega) (by simp; omega) ‹_›)
    ((go_at_call 15; refine (apply_any f HF.out (by simpa using h0) (some x) 0 _ (HT.out.later hBA.drew)).mono ?_; rintro e w2 ⟨rfl, hb2⟩; have hW2 : Below w1.heap.size w1 w2 := hA.drew.trans (hb2.mono (by simp)); have g0 := cell_later hW2 b0; have g1 := cell_later hW2 b1; have g2 := cell_later hW2 b2; have g3 := cell_later hW2 b3; have z0 := (hW2.frozen (p := ⟨w.heap.size, 0, none⟩) hz).trans q0; have z1 := (hW2.frozen (p := ⟨w.heap.size, 1, none⟩) hz).trans q1; have z2 := (hW2.frozen (p := ⟨w.heap.size, 2, none⟩) hz).trans q2; have z3 := (hW2.frozen (p := ⟨w.heap.size, 3, none⟩) hz).trans q3))
  go_wp2
  refine bodyPost_ret (v := .tuple #[.agg #[.float .f64 0, .string ⟨#[]⟩, .slice none 0 0, .bool false], .bool (gv f)]) (by simp [results, Ybad.results12, go_sem, g0, g1, g2, g3]) rfl ⟨rfl, ?_⟩
  exact (((((hB1.trans (hW2.mono hB1.size)).setCell (p := ⟨w.heap.size, 0, none⟩) (Nat.le_refl _) _).setCell (p := ⟨w.heap.size, 1, none⟩) (Nat.le_refl _) _).setCell (p := ⟨w.heap.size, 2, none⟩) (Nat.le_refl _) _).setCell (p := ⟨w.heap.size, 3, none⟩) (Nat.le_refl _) _)

/-- eval, over an expression as the law builds it. -/
theorem eval_any (c how : Value) (p : Nat) (f d : Int) (hf : okF f) (w : World) (he : ExprAt w p f d) (hT : TabAt w) :
    Calls Ybad.prog 12 #[c, .pointer (some ⟨p, 0, none⟩), how] w fun e w' => (∃ ao cp, e = .returned (.tuple #[.agg #[.float .f64 0, .string ⟨#[]⟩, .slice ao 0 cp, .bool false], .bool (gv f)])) ∧ Below w.heap.size w w' := by
  rcases he with ⟨rfl, h⟩ | ⟨h0, c0, c8, q, c1, hq⟩
  · refine (eval_path c how p d w h).mono ?_
    rintro e w' ⟨⟨x, rfl⟩, hb⟩
    exact ⟨⟨some x, 0, rfl⟩, hb⟩
  · refine (eval_func c how p q f hf (by simpa using h0) w c0 c1 hq hT).mono ?_
    rintro e w' ⟨rfl, hb⟩
    exact ⟨⟨none, 0, rfl⟩, hb⟩

set_option maxRecDepth 100000 in
set_option maxHeartbeats 800000 in
theorem leaf_any (ao : Option Addr) (c : Nat) (w : World) :
    Calls Ybad.prog 10 #[.agg #[.float .f64 0, .string ⟨#[]⟩, .slice ao 0 c, .bool false]] w fun e w' => e = .returned (.agg #[.float .f64 0, .string ⟨#[]⟩]) ∧ Below w.heap.size w w' := by
  go_enter Ybad.func10, Ybad.ntmps10
  go_wp2
  exact bodyPost_ret (v := .agg #[.float .f64 0, .string ⟨#[]⟩]) (by simp [results, Ybad.results10, go_sem]) rfl ⟨rfl, ((Below.refl _ _).alloc (Nat.le_refl _) _).alloc (by simp) _⟩
end Go.Proofs.YbulkbylkDoor
