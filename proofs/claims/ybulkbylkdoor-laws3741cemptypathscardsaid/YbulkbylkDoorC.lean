import Derived.Test.YbulkbylkDoorB
namespace Go.Proofs.YbulkbylkDoor
open Go.RowKit
attribute [local go_sem] run_store_float

theorem info52 : (Ybad.prog.info? 52).map (fun i => (i.zero, i.size, i.bytes)) = some (some (.agg #[.float .f64 0, .string ⟨#[]⟩]), 2, 24) := by kernel_rfl

def leafCells : Nat → List Value
  | 0 => []
  | k + 1 => leafCells k ++ [.float .f64 0, .string ⟨#[]⟩]

/-- The variable 'leaves' of measure: k zero leaves. -/
def Inv (W : World) (LV base k : Nat) : Prop :=
  ∃ v, W.cell? ⟨LV, 0, none⟩ = some v ∧ W.frozen? ⟨LV, 0, none⟩ = false ∧ W.ownsRow base 52 2 v k (leafCells k) ∧ (k = 0 → v = .slice none 0 0) ∧ LV < base ∧ base ≤ W.heap.size

theorem own_below {w w' : World} {base : Nat} {e : TypeId} {size : Nat} {v : Value} {n : Nat} {xs : List Value} (h : w.ownsRow base e size v n xs) (hb : Below w.heap.size w w') : w'.ownsRow base e size v n xs := by
  obtain ⟨h1, h2⟩ := h
  refine ⟨h1, ?_⟩
  rcases h2 with h2 | ⟨g, cap, cur, hv, hg, hh, r⟩
  · exact Or.inl h2
  · refine Or.inr ⟨g, cap, cur, hv, hg, ?_, r⟩
    rw [hb.block g (by rcases Nat.lt_or_ge g w.heap.size with h | h; exact h; rw [Array.getElem?_eq_none h] at hh; cases hh)]
    exact hh

theorem Inv.later {W W' : World} {LV base k : Nat} (h : Inv W LV base k) (hb : Below W.heap.size W W') : Inv W' LV base k := by
  obtain ⟨v, c, f, o, z, l, s⟩ := h
  exact ⟨v, cell_later hb c, (hb.frozen (p := ⟨LV, 0, none⟩) (World.block_lt_of_cell? _ _ c)).trans f, own_below o hb, z, l, Nat.le_trans s hb.size⟩

theorem own_ne {W : World} {LV base k : Nat} {v : Value} {xs : List Value} (h : W.ownsRow base 52 2 v k xs) (hl : LV < base) : some LV ≠ v.ownBlock ∧ ∀ g, v.ownBlock = some g → base ≤ g := by
  rcases h.2 with ⟨rfl, _⟩ | ⟨g, cap, cur, rfl, hg, _⟩
  · exact ⟨by simp [Value.ownBlock], fun g h => by simp [Value.ownBlock] at h⟩
  · exact ⟨by simp [Value.ownBlock]; omega, fun g' h => by simp [Value.ownBlock] at h; omega⟩

theorem after_leaf {w w2 w3 : World} {LV base : Nat} {v : Value} {o : Obj} (hW2 : Below w.heap.size w w2) (hLV : LV < w.heap.size) (hN : some LV ≠ v.ownBlock) (hG : ∀ g, v.ownBlock = some g → base ≤ g) (hl : LV < base)
    (cv : w.cell? ⟨LV, 0, none⟩ = some v) (fv : w.frozen? ⟨LV, 0, none⟩ = false) (hg : (w2.alloc o).grownBy w3 v.ownBlock) :
    w3.cell? ⟨LV, 0, none⟩ = some v ∧ w3.frozen? ⟨LV, 0, none⟩ = false ∧ Below LV w w3 := by
  have h2 := hW2.size
  have hlt : (⟨LV, 0, none⟩ : Addr).block < (w2.alloc o).heap.size := by simp; omega
  refine ⟨?_, ?_, ?_⟩
  · rw [hg.cell_far _ hlt hN, World.cell?_alloc_past _ _ _ (by omega)]
    exact cell_later hW2 cv
  · rw [hg.frozen_far _ hlt hN, World.frozen?_alloc_past _ _ _ (by omega)]
    exact (hW2.frozen (p := ⟨LV, 0, none⟩) hLV).trans fv
  · exact (((hW2.mono (by omega)).alloc (by omega) o)).grown hg (by simp; omega) (fun q hq => by have := hG q hq; omega)

theorem visit_end {w w3 : World} {LV base k gg cp : Nat} {v : Value} (F : w3.cell? ⟨LV, 0, none⟩ = some v ∧ w3.frozen? ⟨LV, 0, none⟩ = false ∧ Below LV w w3)
    (hown : w3.ownsRow base 52 2 (.slice (some ⟨gg, 0, none⟩) (k + 1) cp) (k + 1) (leafCells k ++ [.float .f64 0, .string ⟨#[]⟩])) (hl : LV < base) :
    Inv (w3.setCell ⟨LV, 0, none⟩ (.slice (some ⟨gg, 0, none⟩) (k + 1) cp)) LV base (k + 1) ∧ Below LV w (w3.setCell ⟨LV, 0, none⟩ (.slice (some ⟨gg, 0, none⟩) (k + 1) cp)) := by
  obtain ⟨c, f, b⟩ := F
  obtain ⟨g', c', hv, hg, hlt⟩ := hown.form (by omega)
  simp at hv
  refine ⟨⟨_, World.cell?_setCell_same _ _ _ c, by simpa using f, ownsRow_setCell_below hown hl _, (fun h => by omega), hl, by simp; omega⟩, b.setCell (p := ⟨LV, 0, none⟩) (Nat.le_refl _) _⟩

set_option maxRecDepth 100000 in
set_option maxHeartbeats 1600000 in
theorem visit_any (LV base k : Nat) (ao : Option Addr) (c : Nat) (w : World) (hk : k < 1024) (hI : Inv w LV base k) :
    Calls Ybad.prog 9 #[.agg #[.float .f64 0, .string ⟨#[]⟩, .slice ao 0 c, .bool false], .pointer (some ⟨LV, 0, none⟩)] w fun e w' => e = .returned (.tuple #[]) ∧ Inv w' LV base (k + 1) ∧ Below LV w w' := by
  obtain ⟨v, cv, fv, hown, hv0, hl, hs⟩ := hI
  obtain ⟨i0, hi0, hz0, hz1, hz2⟩ := info_parts info52
  have hLV : LV < w.heap.size := World.block_lt_of_cell? _ _ cv
  obtain ⟨hne, hge⟩ := own_ne hown hl
  have HN : Hid (some LV ≠ v.ownBlock) := hne
  have HG : Hid (∀ g, v.ownBlock = some g → base ≤ g) := hge
  have hA := (Below.refl w.heap.size w).alloc (Nat.le_refl _) (.cells #[.float .f64 0, .string ⟨#[]⟩, .slice ao 0 c, .bool false] 61)
  clear hne hge
  go_enter Ybad.func9, Ybad.ntmps9
  go_wp2_with fail
  go_region_law ((first | (refine step_append_lies _ (by rfl) _ _ _ (by rfl) base 52 i0 _ 2 24 Ybad.underlying47 hi0 hz0 hz1 hz2 rfl (by omega) v k (leafCells k) (by rfl) ((own_below hown hW2).alloc _) ⟨w2.heap.size, 0, none⟩ 1 1 [.float .f64 0, .string ⟨#[]⟩] (by rfl) (by rfl) (World.news_of_block (cs := #[.float .f64 0, .string ⟨#[]⟩]) (t := 52) (fr := (0, 0)) (heap_alloc_new w2 _)) (by simp [Value.oneCell']) (by omega) (by unfold maxLen; omega) (by omega) (by have := hW2.size; simp; omega) (w2.heap.size + 1) (by simp) ?_; intro gg cp w3 hown3 hgrow3 hat3 hlt3; have F := after_leaf hW2 hLV HN.out HG.out hl cv fv hgrow3; have cv3 := F.1; have fv3 := F.2.1) | (go_simp; refine (leaf_any ao c _).mono ?_; rintro e w2 ⟨rfl, hb2⟩; have hW2 : Below w.heap.size w w2 := hA.drew.trans (hb2.mono (by simp)); have cv2 := cell_later hW2 cv; have hLV2 : LV < w2.heap.size := Nat.lt_of_lt_of_le hLV hW2.size)))
  all_goals
    have R := visit_end F hown3 hl
    clear F cv3 fv3 hown3 hgrow3 hat3 hlt3
    go_wp2
    go_end0
    exact ⟨rfl, R.1, R.2⟩

set_option maxRecDepth 100000 in
set_option maxHeartbeats 1600000 in
theorem visitAt_yes (LV base k : Nat) (ao : Option Addr) (c : Nat) (w : World) (hk : k < 1024) (hI : Inv w LV base k) :
    Calls Ybad.prog 13 #[.agg #[.float .f64 0, .string ⟨#[]⟩, .slice ao 0 c, .bool false], .int .i64 0, .int .i64 0, .func (.func 9) #[] #[.pointer (some ⟨LV, 0, none⟩)]] w fun e w' => e = .returned (.tuple #[]) ∧ Inv w' LV base (k + 1) ∧ Below LV w w' := by
  have HI : Hid (Inv w LV base k) := hI
  have hLV : LV < w.heap.size := by obtain ⟨v, cv, _⟩ := hI; exact World.block_lt_of_cell? _ _ cv
  clear hI
  have hA := (Below.refl w.heap.size w).alloc (Nat.le_refl _) (.cells #[.float .f64 0, .string ⟨#[]⟩, .slice ao 0 c, .bool false] 61)
  go_enter Ybad.func13, Ybad.ntmps13
  go_wp2_with (go_at_call 9; refine (visit_any LV base k ao c _ hk (HI.out.later hA)).mono ?_; rintro e w1 ⟨rfl, hI1, hb1⟩)
  exact bodyPost_ret (v := .tuple #[]) (by simp [results, Ybad.results13, go_sem]) rfl ⟨rfl, hI1, (hA.mono (by omega)).trans hb1⟩

set_option maxRecDepth 100000 in
set_option maxHeartbeats 1600000 in
theorem visitAt_no (LV base k : Nat) (d : Int) (hd : (d == 0) = false) (ao : Option Addr) (c : Nat) (w : World) (hI : Inv w LV base k) :
    Calls Ybad.prog 13 #[.agg #[.float .f64 0, .string ⟨#[]⟩, .slice ao 0 c, .bool false], .int .i64 d, .int .i64 0, .func (.func 9) #[] #[.pointer (some ⟨LV, 0, none⟩)]] w fun e w' => e = .returned (.tuple #[]) ∧ Inv w' LV base k ∧ Below LV w w' := by
  have HI : Hid (Inv w LV base k) := hI
  have hLV : LV < w.heap.size := by obtain ⟨v, cv, _⟩ := hI; exact World.block_lt_of_cell? _ _ cv
  clear hI
  have hA := (Below.refl w.heap.size w).alloc (Nat.le_refl _) (.cells #[.float .f64 0, .string ⟨#[]⟩, .slice ao 0 c, .bool false] 61)
  go_enter Ybad.func13, Ybad.ntmps13
  go_wp2_with fail
  refine wp_loop_rounds 1 ?_
  rw [rounds_succ]
  go_wp2_with fail
  go_end0
  exact ⟨rfl, HI.out.later hA, hA.mono (by omega)⟩

/-- visitAt at level 0. -/
theorem visitAt_any (LV base k : Nat) (d : Int) (ao : Option Addr) (c : Nat) (w : World) (hk : k < 1024) (hI : Inv w LV base k) :
    Calls Ybad.prog 13 #[.agg #[.float .f64 0, .string ⟨#[]⟩, .slice ao 0 c, .bool false], .int .i64 d, .int .i64 0, .func (.func 9) #[] #[.pointer (some ⟨LV, 0, none⟩)]] w fun e w' => e = .returned (.tuple #[]) ∧ Inv w' LV base (k + (d == 0).toNat) ∧ Below LV w w' := by
  by_cases h : d = 0
  · subst h; exact visitAt_yes LV base k ao c w hk hI
  · have h' : (d == 0) = false := by simpa using h
    rw [h']
    exact visitAt_no LV base k d h' ao c w hI
end Go.Proofs.YbulkbylkDoor
