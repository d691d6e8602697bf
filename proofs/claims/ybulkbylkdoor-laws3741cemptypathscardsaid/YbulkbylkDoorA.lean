import Derived.Test.YbulkbylkDoorProg
import Derived.WalkKit
import Derived.WalkSpells
import Derived.WalkLawsBesides
import Derived.ProofKit
import Derived.Below
import Derived.BigQuiet
import Derived.Deep.QuietTactic
import Derived.Deep.RegionLaw
import Derived.Deep.AppendLies
import Derived.Laws.ResultCell
import Derived.Outline
import Derived.KernelRfl
namespace Go.Proofs.YbulkbylkDoor
open Go.RowKit

/-- The law that the walk's set lacks: a float stored. -/
theorem run_store_float {P : Program} (w : World) (a : Addr) (m : Mode) (k : FloatKind) (n : Nat) : (store a (.float k n) m).run P w = stored P w a (.float k n) m := run_store P w a _ m rfl
attribute [local go_sem] run_store_float

/-- The functions that the law picks. -/
def okF (f : Int) : Prop := f = 0 ∨ f = 1 ∨ f = 2 ∨ f = 3 ∨ f = 4 ∨ f = 6 ∨ f = 7 ∨ f = 8 ∨ f = 9
/-- Whether it gives a value of an empty list. -/
def gv (f : Int) : Bool := f == 0 || f == 6 || f == 8

set_option maxHeartbeats 800000 in
theorem func_any (s : Int) (h0 : 0 ≤ s) (h1 : s ≤ 255) (w : World) :
    Calls Ybad.prog 4 #[.int .u8 s] w fun e w' => ∃ f, okF f ∧ e = .returned (.tuple #[.int .i64 f, .bool (gv f)]) ∧ w' = w := by
  obtain ⟨m, hm⟩ : ∃ m, s % 9 = m := ⟨_, rfl⟩
  have hm0 : 0 ≤ m := by omega
  have hm8 : m ≤ 8 := by omega
  have hc : m = 0 ∨ m = 1 ∨ m = 2 ∨ m = 3 ∨ m = 4 ∨ m = 5 ∨ m = 6 ∨ m = 7 ∨ m = 8 := by omega
  clear hm0 hm8
  rcases hc with rfl | rfl | rfl | rfl | rfl | rfl | rfl | rfl | rfl
  all_goals
    go_enter Ybad.func4, Ybad.ntmps4
    go_wp2
    go_ret2
    refine ⟨_, ?_, rfl, rfl⟩
    simp [okF]

theorem mk0 : ∀ w, (Instr.makeSlice 59 (.int .i64 0) (.int .i64 0)).run Ybad.prog w = .ok (.slice (some ⟨w.heap.size, 0, none⟩) 0 0) (w.alloc (.cells #[] 61)) := fun _ => by kernel_rfl

/-- An expression that is a path which names no team. -/
def PathAt (W : World) (p : Nat) (d : Int) : Prop :=
  W.cell? ⟨p, 0, none⟩ = some (.int .i64 0) ∧ W.cell? ⟨p, 2, none⟩ = some (.slice none 0 0) ∧ (∃ b, W.cell? ⟨p, 3, none⟩ = some (.bool b)) ∧ W.cell? ⟨p, 8, none⟩ = some (.int .i64 d)

set_option maxRecDepth 100000 in
set_option maxHeartbeats 800000 in
theorem path_any (c how : Value) (p : Nat) (d : Int) (w : World) (h : PathAt w p d) :
    Calls Ybad.prog 14 #[c, .pointer (some ⟨p, 0, none⟩), how] w fun e w' => (∃ x, e = .returned (.agg #[.float .f64 0, .string ⟨#[]⟩, .slice (some x) 0 0, .bool false])) ∧ Below w.heap.size w w' := by
  obtain ⟨c0, c2, ⟨b, c3⟩, c8⟩ := h
  have hp : p < w.heap.size := World.block_lt_of_cell? _ _ c0
  have hp1 : p < w.heap.size + 1 := by omega
  have hp2 : p < w.heap.size + 1 + 1 := by omega
  have hp3 : p < w.heap.size + 1 + 1 + 1 := by omega
  have hmk := mk0
  cases b
  · go_enter Ybad.func14, Ybad.ntmps14
    go_wp2
    refine wp_loop_rounds 1 ?_
    rw [rounds_succ]
    go_wp2
    refine wp_loop_rounds 1 ?_
    rw [rounds_succ]
    go_wp2
    exact bodyPost_ret (v := .agg #[.float .f64 0, .string ⟨#[]⟩, .slice (some ⟨w.heap.size + 1, 0, none⟩) 0 0, .bool false]) (by simp [results, Ybad.results14, go_sem]) rfl ⟨⟨_, rfl⟩, (((Below.refl _ _).alloc (Nat.le_refl _) _).alloc (by simp) _).alloc (by simp; omega) _⟩
  · go_enter Ybad.func14, Ybad.ntmps14
    go_wp2
    refine wp_loop_rounds 1 ?_
    rw [rounds_succ]
    go_wp2
    exact bodyPost_ret (v := .agg #[.float .f64 0, .string ⟨#[]⟩, .slice (some ⟨w.heap.size + 1, 0, none⟩) 0 0, .bool false]) (by simp [results, Ybad.results14, go_sem]) rfl ⟨⟨_, rfl⟩, (((Below.refl _ _).alloc (Nat.le_refl _) _).alloc (by simp) _).alloc (by simp; omega) _⟩

set_option maxRecDepth 100000 in
set_option maxHeartbeats 800000 in
theorem reduce_none (f : Int) (ao : Option Addr) (c : Nat) (w : World) (hf : (f != 5) = true) :
    Calls Ybad.prog 19 #[.int .i64 f, .slice ao 0 c] w fun e w' => e = .returned (.tuple #[.agg #[.float .f64 0, .string ⟨#[]⟩, .slice none 0 0, .bool false], .bool false]) ∧ Below w.heap.size w w' := by
  go_enter Ybad.func19, Ybad.ntmps19
  go_wp2
  exact bodyPost_ret (v := .tuple #[.agg #[.float .f64 0, .string ⟨#[]⟩, .slice none 0 0, .bool false], .bool false]) (by simp [results, Ybad.results19, go_sem]) rfl ⟨rfl, ((Below.refl _ _).alloc (Nat.le_refl _) _).alloc (by simp) _⟩

set_option maxRecDepth 100000 in
set_option maxHeartbeats 800000 in
theorem common_none (ao : Option Addr) (c : Nat) (w : World) :
    Calls Ybad.prog 18 #[.slice ao 0 c] w fun e w' => e = .returned (.tuple #[.agg #[.float .f64 0, .string ⟨#[]⟩, .slice none 0 0, .bool false], .bool false]) ∧ Below w.heap.size w w' := by
  go_enter Ybad.func18, Ybad.ntmps18
  go_wp2
  exact bodyPost_ret (v := .tuple #[.agg #[.float .f64 0, .string ⟨#[]⟩, .slice none 0 0, .bool false], .bool false]) (by simp [results, Ybad.results18, go_sem]) rfl ⟨rfl, (Below.refl _ _).alloc (Nat.le_refl _) _⟩

/-- What the walk asks of the table of the functions. -/
def TabAt (W : World) : Prop := ∃ T o c : Nat, W.cell? ⟨0, 0, none⟩ = some (.slice (some ⟨T, o, none⟩) 9 c) ∧ ∀ i : Nat, i < 9 → ∃ k d : Int, 0 ≤ d ∧ W.cell? ⟨T, o + i * 4 + 1, none⟩ = some (.int .i64 k) ∧ W.cell? ⟨T, o + i * 4 + 2, none⟩ = some (.int .i64 d)

theorem TabAt.later {W W' : World} (h : TabAt W) (hb : Below W.heap.size W W') : TabAt W' := by
  obtain ⟨T, o, c, h1, h2⟩ := h
  refine ⟨T, o, c, cell_later hb h1, fun i hi => ?_⟩
  obtain ⟨k, d, hd, a, b⟩ := h2 i hi
  exact ⟨k, d, hd, cell_later hb a, cell_later hb b⟩

set_option maxRecDepth 100000 in
set_option maxHeartbeats 800000 in
theorem takes_any (i : Nat) (hi : i < 9) (w : World) (h : TabAt w) :
    Calls Ybad.prog 17 #[.int .i64 (i + 1)] w fun e w' => (∃ k d : Int, 0 ≤ d ∧ e = .returned (.agg #[.int .i64 k, .int .i64 d])) ∧ Below w.heap.size w w' := by
  obtain ⟨T, o, c, h1, h2⟩ := h
  obtain ⟨k, d, hd, a, b⟩ := h2 i hi
  have l0 : 0 < w.heap.size := World.block_lt_of_cell? _ _ h1
  have lT : T < w.heap.size := World.block_lt_of_cell? _ _ a
  have hi0 : (0 : Int) ≤ (i : Int) := Int.natCast_nonneg _
  have hi9 : (i : Int) < 9 := by omega
  clear h2
  go_enter Ybad.func17, Ybad.ntmps17
  go_wp2
  exact bodyPost_ret (v := .agg #[.int .i64 k, .int .i64 d]) (by simp [results, Ybad.results17, go_sem]) rfl ⟨⟨k, d, hd, rfl⟩, (Below.refl _ _).alloc (Nat.le_refl _) _⟩

theorem takes_int (f : Int) (h0 : 1 ≤ f) (h9 : f ≤ 9) (w : World) (h : TabAt w) :
    Calls Ybad.prog 17 #[.int .i64 f] w fun e w' => (∃ k d : Int, 0 ≤ d ∧ e = .returned (.agg #[.int .i64 k, .int .i64 d])) ∧ Below w.heap.size w w' := by
  have := takes_any (f - 1).toNat (by omega) w h
  rw [show (((f - 1).toNat : Nat) : Int) + 1 = f from by omega] at this
  exact this

theorem field1 : ∀ (w : World) (k d : Int), (Instr.field 32 (.agg #[.int .i64 k, .int .i64 d]) 1).run Ybad.prog w = .ok (.int .i64 d) w := fun _ _ _ => by kernel_rfl

/-- Two blocks that the call has laid, in whatever world lies behind. -/
theorem two_boxes {w w1 : World} {A B : Array Value} {t u : TypeId} (hb : Below ((w.alloc (.cells A t)).alloc (.cells B u)).heap.size ((w.alloc (.cells A t)).alloc (.cells B u)) w1) :
    (∀ j, w1.cell? ⟨w.heap.size, j, none⟩ = A[j]?) ∧ (∀ j, w1.cell? ⟨w.heap.size + 1, j, none⟩ = B[j]?) ∧ (∀ j, w1.frozen? ⟨w.heap.size, j, none⟩ = false) ∧ (∀ j, w1.frozen? ⟨w.heap.size + 1, j, none⟩ = false) := by
  refine ⟨fun j => ?_, fun j => ?_, fun j => ?_, fun j => ?_⟩
  · rw [hb.cell (p := ⟨w.heap.size, j, none⟩) (by simp; omega)]; simp
  · rw [hb.cell (p := ⟨w.heap.size + 1, j, none⟩) (by simp)]
    have : w.heap.size + 1 = (w.alloc (.cells A t)).heap.size := by simp
    rw [this]; simp only [World.cell?_alloc_new]
  · rw [hb.frozen (p := ⟨w.heap.size, j, none⟩) (by simp; omega)]; simp
  · rw [hb.frozen (p := ⟨w.heap.size + 1, j, none⟩) (by simp)]
    have : w.heap.size + 1 = (w.alloc (.cells A t)).heap.size := by simp
    rw [this]; simp only [World.frozen?_alloc_new]

theorem two4 {w w1 : World} {a0 a1 a2 a3 b0 b1 b2 b3 : Value} {t u : TypeId} (hb : Below ((w.alloc (.cells #[a0, a1, a2, a3] t)).alloc (.cells #[b0, b1, b2, b3] u)).heap.size ((w.alloc (.cells #[a0, a1, a2, a3] t)).alloc (.cells #[b0, b1, b2, b3] u)) w1) :
    (w1.cell? ⟨w.heap.size, 2, none⟩ = some a2 ∧ w1.cell? ⟨w.heap.size, 3, none⟩ = some a3) ∧
    (w1.cell? ⟨w.heap.size + 1, 0, none⟩ = some b0 ∧ w1.cell? ⟨w.heap.size + 1, 1, none⟩ = some b1 ∧ w1.cell? ⟨w.heap.size + 1, 2, none⟩ = some b2 ∧ w1.cell? ⟨w.heap.size + 1, 3, none⟩ = some b3) ∧
    (w1.frozen? ⟨w.heap.size + 1, 0, none⟩ = false ∧ w1.frozen? ⟨w.heap.size + 1, 1, none⟩ = false ∧ w1.frozen? ⟨w.heap.size + 1, 2, none⟩ = false ∧ w1.frozen? ⟨w.heap.size + 1, 3, none⟩ = false) ∧ w.heap.size + 1 < w1.heap.size := by
  obtain ⟨h1, h2, _, h4⟩ := two_boxes hb
  exact ⟨⟨h1 2, h1 3⟩, ⟨h2 0, h2 1, h2 2, h2 3⟩, ⟨h4 0, h4 1, h4 2, h4 3⟩, by have := hb.size; simp at this; omega⟩

theorem set4 {w w2 : World} (h : Below w.heap.size w w2) (a b c d : Value) :
    Below w.heap.size w ((((w2.setCell ⟨w.heap.size + 1, 0, none⟩ a).setCell ⟨w.heap.size + 1, 1, none⟩ b).setCell ⟨w.heap.size + 1, 2, none⟩ c).setCell ⟨w.heap.size + 1, 3, none⟩ d) :=
  (((h.setCell (p := ⟨w.heap.size + 1, 0, none⟩) (Nat.le_succ _) _).setCell (p := ⟨w.heap.size + 1, 1, none⟩) (Nat.le_succ _) _).setCell (p := ⟨w.heap.size + 1, 2, none⟩) (Nat.le_succ _) _).setCell (p := ⟨w.heap.size + 1, 3, none⟩) (Nat.le_succ _) _

set_option maxRecDepth 100000 in
set_option maxHeartbeats 1600000 in
theorem apply_reduce (f : Int) (hf : f = 1 ∨ f = 2 ∨ f = 3 ∨ f = 4 ∨ f = 7) (ao : Option Addr) (c : Nat) (w : World) (h : TabAt w) :
    Calls Ybad.prog 15 #[.int .i64 f, .agg #[.float .f64 0, .string ⟨#[]⟩, .slice ao 0 c, .bool false], .int .i64 0] w fun e w' => e = .returned (.tuple #[.agg #[.float .f64 0, .string ⟨#[]⟩, .slice none 0 0, .bool false], .bool false]) ∧ Below w.heap.size w w' := by
  have HT : Hid (TabAt w) := h
  clear h
  have hB := ((Below.refl w.heap.size w).alloc (Nat.le_refl _) (.cells #[.float .f64 0, .string ⟨#[]⟩, .slice ao 0 c, .bool false] 61)).alloc (by simp) (.cells #[.float .f64 0, .string ⟨#[]⟩, .slice none 0 0, .bool false] 61)
  have f6 : (f == 6) = false := by simp; omega
  have f8 : (f == 8) = false := by simp; omega
  have f9 : (f == 9) = false := by simp; omega
  have HF : Hid (1 ≤ f ∧ f ≤ 9) := show 1 ≤ f ∧ f ≤ 9 from by omega
  have f5 : (f != 5) = true := by simp; omega
  clear hf
  have hfd := field1
  go_enter Ybad.func15, Ybad.ntmps15
  go_wp2_with fail
  refine (takes_int f HF.out.1 HF.out.2 _ (HT.out.later hB)).mono ?_
  rintro e w1 ⟨⟨k, d, hd, rfl⟩, hb1⟩
  obtain ⟨⟨p0, p1⟩, ⟨b0, b1, b2, b3⟩, ⟨q0, q1, q2, q3⟩, hz⟩ := two4 hb1
  have hd' : ¬ (d < 0) := by omega
  go_wp2_with fail
  refine (reduce_none f ao c _ f5).mono ?_
  rintro e w2 ⟨rfl, hb2⟩
  have hb12 := hb1.trans (hb2.mono hb1.size)
  clear b0 b1 b2 b3 p0 p1 q0 q1 q2 q3
  obtain ⟨⟨p0, p1⟩, ⟨b0, b1, b2, b3⟩, ⟨q0, q1, q2, q3⟩, hz⟩ := two4 hb12
  go_wp2
  refine bodyPost_ret (v := .tuple #[.agg #[.float .f64 0, .string ⟨#[]⟩, .slice none 0 0, .bool false], .bool false]) (by simp [results, Ybad.results15, go_sem, b0, b1, b2, b3]) rfl ⟨rfl, ?_⟩
  exact set4 (hB.trans (hb12.mono (by simp; omega))) _ _ _ _

set_option maxRecDepth 100000 in
set_option maxHeartbeats 1600000 in
theorem apply_common (ao : Option Addr) (c : Nat) (w : World) (h : TabAt w) :
    Calls Ybad.prog 15 #[.int .i64 9, .agg #[.float .f64 0, .string ⟨#[]⟩, .slice ao 0 c, .bool false], .int .i64 0] w fun e w' => e = .returned (.tuple #[.agg #[.float .f64 0, .string ⟨#[]⟩, .slice none 0 0, .bool false], .bool false]) ∧ Below w.heap.size w w' := by
  have HT : Hid (TabAt w) := h
  clear h
  have hB := ((Below.refl w.heap.size w).alloc (Nat.le_refl _) (.cells #[.float .f64 0, .string ⟨#[]⟩, .slice ao 0 c, .bool false] 61)).alloc (by simp) (.cells #[.float .f64 0, .string ⟨#[]⟩, .slice none 0 0, .bool false] 61)
  have hfd := field1
  go_enter Ybad.func15, Ybad.ntmps15
  go_wp2_with fail
  refine (takes_int 9 (by omega) (by omega) _ (HT.out.later hB)).mono ?_
  rintro e w1 ⟨⟨k, d, hd, rfl⟩, hb1⟩
  obtain ⟨⟨p0, p1⟩, ⟨b0, b1, b2, b3⟩, ⟨q0, q1, q2, q3⟩, hz⟩ := two4 hb1
  have hd' : ¬ (d < 0) := by omega
  go_wp2_with fail
  refine (common_none ao c _).mono ?_
  rintro e w2 ⟨rfl, hb2⟩
  have hb12 := hb1.trans (hb2.mono hb1.size)
  clear b0 b1 b2 b3 p0 p1 q0 q1 q2 q3
  obtain ⟨⟨p0, p1⟩, ⟨b0, b1, b2, b3⟩, ⟨q0, q1, q2, q3⟩, hz⟩ := two4 hb12
  go_wp2
  refine bodyPost_ret (v := .tuple #[.agg #[.float .f64 0, .string ⟨#[]⟩, .slice none 0 0, .bool false], .bool false]) (by simp [results, Ybad.results15, go_sem, b0, b1, b2, b3]) rfl ⟨rfl, ?_⟩
  exact set4 (hB.trans (hb12.mono (by simp; omega))) _ _ _ _

set_option maxRecDepth 100000 in
set_option maxHeartbeats 1600000 in
theorem apply_flatten (ao : Option Addr) (c : Nat) (w : World) (h : TabAt w) :
    Calls Ybad.prog 15 #[.int .i64 8, .agg #[.float .f64 0, .string ⟨#[]⟩, .slice ao 0 c, .bool false], .int .i64 0] w fun e w' => e = .returned (.tuple #[.agg #[.float .f64 0, .string ⟨#[]⟩, .slice none 0 0, .bool false], .bool true]) ∧ Below w.heap.size w w' := by
  have HT : Hid (TabAt w) := h
  clear h
  have hB := ((Below.refl w.heap.size w).alloc (Nat.le_refl _) (.cells #[.float .f64 0, .string ⟨#[]⟩, .slice ao 0 c, .bool false] 61)).alloc (by simp) (.cells #[.float .f64 0, .string ⟨#[]⟩, .slice none 0 0, .bool false] 61)
  have hfd := field1
  go_enter Ybad.func15, Ybad.ntmps15
  go_wp2_with fail
  refine (takes_int 8 (by omega) (by omega) _ (HT.out.later hB)).mono ?_
  rintro e w1 ⟨⟨k, d, hd, rfl⟩, hb1⟩
  obtain ⟨⟨p0, p1⟩, ⟨b0, b1, b2, b3⟩, ⟨q0, q1, q2, q3⟩, hz⟩ := two4 hb1
  have hd' : ¬ (d < 0) := by omega
  go_wp2_with fail
  refine wp_loop_rounds 1 ?_
  rw [rounds_succ]
  go_wp2
  refine bodyPost_ret (v := .tuple #[.agg #[.float .f64 0, .string ⟨#[]⟩, .slice none 0 0, .bool false], .bool true]) (by simp [results, Ybad.results15, go_sem, b0, b1, b2, b3]) rfl ⟨rfl, ?_⟩
  exact set4 (hB.trans (hb1.mono (by simp; omega))) _ _ _ _

set_option maxRecDepth 100000 in
set_option maxHeartbeats 1600000 in
theorem apply_count (ao : Option Addr) (c : Nat) (w : World) (h : TabAt w) :
    Calls Ybad.prog 15 #[.int .i64 6, .agg #[.float .f64 0, .string ⟨#[]⟩, .slice ao 0 c, .bool false], .int .i64 0] w fun e w' => e = .returned (.tuple #[.agg #[.float .f64 0, .string ⟨#[]⟩, .slice none 0 0, .bool false], .bool true]) ∧ Below w.heap.size w w' := by
  have HT : Hid (TabAt w) := h
  clear h
  have hB := ((Below.refl w.heap.size w).alloc (Nat.le_refl _) (.cells #[.float .f64 0, .string ⟨#[]⟩, .slice ao 0 c, .bool false] 61)).alloc (by simp) (.cells #[.float .f64 0, .string ⟨#[]⟩, .slice none 0 0, .bool false] 61)
  have hfd := field1
  have hz0 : floatOfInt FloatKind.f64 0 = 0 := by decide +kernel
  go_enter Ybad.func15, Ybad.ntmps15
  go_wp2_with fail
  refine (takes_int 6 (by omega) (by omega) _ (HT.out.later hB)).mono ?_
  rintro e w1 ⟨⟨k, d, hd, rfl⟩, hb1⟩
  obtain ⟨⟨p0, p1⟩, ⟨b0, b1, b2, b3⟩, ⟨q0, q1, q2, q3⟩, hz⟩ := two4 hb1
  have hd' : ¬ (d < 0) := by omega
  go_wp2_with fail
  go_region
  go_wp2
  refine bodyPost_ret (v := .tuple #[.agg #[.float .f64 0, .string ⟨#[]⟩, .slice none 0 0, .bool false], .bool true]) (by simp [results, Ybad.results15, go_sem, b0, b1, b2, b3]) rfl ⟨rfl, ?_⟩
  exact (set4 (hB.trans (hb1.mono (by simp; omega))) _ _ _ _).drew
end Go.Proofs.YbulkbylkDoor
