import Derived.Test.YbulkbylkDoorD
namespace Go.Proofs.YbulkbylkDoor
open Go.RowKit
attribute [local go_sem] run_store_float

theorem info29 : (Ybad.prog.info? 29).map (fun i => (i.zero, i.size, i.bytes)) = some (some (.pointer none), 1, 8) := by kernel_rfl

/-- The blocks above lo that were there are as they were. -/
def Above (lo : Nat) (W W' : World) : Prop := W.heap.size ≤ W'.heap.size ∧ ∀ b, lo < b → b < W.heap.size → W'.heap[b]? = W.heap[b]?

theorem Above.cell {lo : Nat} {W W' : World} (h : Above lo W W') {a : Addr} {v : Value} (hl : lo < a.block) (hc : W.cell? a = some v) : W'.cell? a = some v := by
  rw [World.cell?_of_block (h.2 a.block hl (World.block_lt_of_cell? _ _ hc))]; exact hc

def PathHi (W : World) (lo p : Nat) (d : Int) : Prop := PathAt W p d ∧ lo < p
theorem PathHi.kept {W W' : World} {lo p : Nat} {d : Int} (h : PathHi W lo p d) (ha : Above lo W W') : PathHi W' lo p d := by
  obtain ⟨⟨a, b, ⟨x, c⟩, e⟩, hl⟩ := h
  exact ⟨⟨ha.cell hl a, ha.cell hl b, ⟨x, ha.cell hl c⟩, ha.cell hl e⟩, hl⟩

def ExprHi (W : World) (lo p : Nat) (f d : Int) : Prop :=
  (f = 0 ∧ PathHi W lo p d) ∨ (f ≠ 0 ∧ lo < p ∧ W.cell? ⟨p, 0, none⟩ = some (.int .i64 f) ∧ W.cell? ⟨p, 8, none⟩ = some (.int .i64 d) ∧ ∃ q, W.cell? ⟨p, 1, none⟩ = some (.pointer (some ⟨q, 0, none⟩)) ∧ PathHi W lo q 0)
theorem ExprHi.kept {W W' : World} {lo p : Nat} {f d : Int} (h : ExprHi W lo p f d) (ha : Above lo W W') : ExprHi W' lo p f d := by
  rcases h with ⟨a, h⟩ | ⟨a, hl, h1, h2, q, h3, h4⟩
  · exact .inl ⟨a, h.kept ha⟩
  · exact .inr ⟨a, hl, ha.cell hl h1, ha.cell hl h2, q, ha.cell hl h3, h4.kept ha⟩
theorem ExprHi.at {W : World} {lo p : Nat} {f d : Int} (h : ExprHi W lo p f d) : ExprAt W p f d := by
  rcases h with ⟨a, h⟩ | ⟨a, hl, h1, h2, q, h3, h4⟩
  · exact .inl ⟨a, h.1⟩
  · exact .inr ⟨a, h1, h2, q, h3, h4.1⟩

theorem above_of_below {lo : Nat} {W W' : World} (h : Below W.heap.size W W') : Above lo W W' := ⟨h.size, fun b _ hb => h.block b hb⟩
theorem above_of_grown {lo : Nat} {W W' : World} (h : W.grownBy W' (some lo)) : Above lo W W' := ⟨h.size, fun b hl hb => h.block b hb (by simp; omega)⟩
theorem Above.trans {lo : Nat} {a b c : World} (h : Above lo a b) (k : Above lo b c) : Above lo a c := ⟨Nat.le_trans h.1 k.1, fun x hl hx => (k.2 x hl (Nat.lt_of_lt_of_le hx h.1)).trans (h.2 x hl hx)⟩

/-- The measurements that the law has built so far. -/
def EsAt (W : World) (lo : Nat) (es : List (Nat × Int × Int)) : Prop := ∀ e ∈ es, ExprHi W lo e.1 e.2.1 e.2.2 ∧ okF e.2.1
theorem EsAt.kept {W W' : World} {lo : Nat} {es : List (Nat × Int × Int)} (h : EsAt W lo es) (ha : Above lo W W') : EsAt W' lo es := fun e he => ⟨(h e he).1.kept ha, (h e he).2⟩
theorem EsAt.snoc {W : World} {lo p : Nat} {f d : Int} {es : List (Nat × Int × Int)} (h : EsAt W lo es) (he : ExprHi W lo p f d) (hf : okF f) : EsAt W lo (es ++ [(p, f, d)]) := by
  intro e hm
  rcases List.mem_append.1 hm with hm | hm
  · exact h e hm
  · simp at hm; subst hm; exact ⟨he, hf⟩

def ptrs (es : List (Nat × Int × Int)) : List Value := es.map fun e => .pointer (some ⟨e.1, 0, none⟩)

theorem cnt_snoc (es : List (Nat × Int × Int)) (k p : Nat) (f d : Int) (hk : es.length = k) : cntTo (es ++ [(p, f, d)]) (k + 1) = cntTo es k + (gv f && d == 0).toNat := by
  have h := cnt_succ (es ++ [(p, f, d)]) k (by simp; omega)
  have e1 : cntTo (es ++ [(p, f, d)]) k = cntTo es k := by unfold cntTo; rw [List.take_append_of_le_length (by omega)]
  have e2 : (es ++ [(p, f, d)]).getD k (0, 0, 0) = (p, f, d) := by simp [← hk]
  rw [h, e1, e2]

/-- What the law reads of one of its specs. -/
def SpecAt (w : World) (b off i : Nat) (fn d : Int) (pt : Bool) : Prop :=
  w.cell? ⟨b, off + i * 3, none⟩ = some (.int .u8 fn) ∧ w.cell? ⟨b, off + i * 3 + 1, none⟩ = some (.int .i64 d) ∧ w.cell? ⟨b, off + i * 3 + 2, none⟩ = some (.bool pt) ∧ 0 ≤ fn ∧ fn ≤ 255

theorem cells3 (w : World) (A B C : Array Value) (tA tB tC : TypeId) (j : Nat) : (((w.alloc (.cells A tA)).alloc (.cells B tB)).alloc (.cells C tC)).cell? ⟨w.heap.size + 1, j, none⟩ = B[j]? := by
  rw [World.cell?_alloc_past _ _ _ (by simp), World.cell?_alloc_at _ _ _ _ (by simp)]
theorem cells3' (w : World) (A B C : Array Value) (tA tB tC : TypeId) (j : Nat) : (((w.alloc (.cells A tA)).alloc (.cells B tB)).alloc (.cells C tC)).cell? ⟨w.heap.size + 1 + 1, j, none⟩ = C[j]? := by
  rw [World.cell?_alloc_at _ _ _ _ (by simp)]
theorem cells4a (w : World) (A B C D : Array Value) (tA tB tC tD : TypeId) (j : Nat) : ((((w.alloc (.cells A tA)).alloc (.cells B tB)).alloc (.cells C tC)).alloc (.cells D tD)).cell? ⟨w.heap.size + 1, j, none⟩ = B[j]? := by
  rw [World.cell?_alloc_past _ _ _ (by simp), cells3]
theorem cells4b (w : World) (A B C D : Array Value) (tA tB tC tD : TypeId) (j : Nat) : ((((w.alloc (.cells A tA)).alloc (.cells B tB)).alloc (.cells C tC)).alloc (.cells D tD)).cell? ⟨w.heap.size + 1 + 1, j, none⟩ = C[j]? := by
  rw [World.cell?_alloc_past _ _ _ (by simp), cells3']
theorem cells4c (w : World) (A B C D : Array Value) (tA tB tC tD : TypeId) (j : Nat) : ((((w.alloc (.cells A tA)).alloc (.cells B tB)).alloc (.cells C tC)).alloc (.cells D tD)).cell? ⟨w.heap.size + 1 + 1 + 1, j, none⟩ = D[j]? := by
  rw [World.cell?_alloc_at _ _ _ _ (by simp)]

/-- What stands behind k rounds of the law's first loop. -/
def Built (w wr : World) (n k : Nat) (es : List (Nat × Int × Int)) : Prop :=
  es.length = k ∧ wr.ownsRow w.heap.size 29 1 (.slice (some ⟨w.heap.size, 0, none⟩) k n) k (ptrs es) ∧ EsAt wr w.heap.size es ∧ Below w.heap.size w wr
theorem Built.lt {w wr : World} {n k : Nat} {es : List (Nat × Int × Int)} (h : Built w wr n k es) : w.heap.size < wr.heap.size := by
  rcases h.2.1.2 with ⟨h', _⟩ | ⟨g', cap', cur, h', _, hg, _⟩
  · simp at h'
  · simp only [Value.slice.injEq, Option.some.injEq, Addr.mk.injEq, and_true, true_and] at h'
    obtain ⟨rfl, rfl⟩ := h'
    rcases Nat.lt_or_ge w.heap.size wr.heap.size with hl | hl
    · exact hl
    · rw [Array.getElem?_eq_none hl] at hg; cases hg

theorem Built.ms {w wr W : World} {n k : Nat} {es : List (Nat × Int × Int)} (h : Built w wr n k es) (hb : Below wr.heap.size wr W) : MsAt W w.heap.size es := by
  obtain ⟨h1, h2, h3, _⟩ := h
  intro i hi
  have he : es.getD i (0, 0, 0) ∈ es := by rw [List.getD_eq_getElem?_getD, List.getElem?_eq_getElem hi]; exact List.getElem_mem hi
  refine ⟨?_, ((h3 _ he).1.at).later hb, (h3 _ he).2⟩
  refine cell_later hb ?_
  rw [h2.cellAt i (by omega)]
  simp [ptrs, hi]

theorem fneq : ∀ w, (binOp .neq 50 (.float .f64 0) (.float .f64 0)).run Ybad.prog w = .ok (.bool false) w := fun _ => by kernel_rfl

theorem leafCells_len (k : Nat) : (leafCells k).length = k * 2 := by
  induction k with
  | zero => rfl
  | succ k ih => simp [leafCells, ih]; omega

theorem leafCells_at (k j : Nat) (h : j < k) : (leafCells k)[j * 2]? = some (.float .f64 0) ∧ (leafCells k)[j * 2 + 1]? = some (.string ⟨#[]⟩) := by
  induction k with
  | zero => omega
  | succ k ih =>
    have hl := leafCells_len k
    by_cases hj : j < k
    · simp only [leafCells]
      rw [List.getElem?_append_left (by omega), List.getElem?_append_left (by omega)]
      exact ih hj
    · have : j = k := by omega
      subst this
      simp only [leafCells]
      rw [List.getElem?_append_right (by omega), List.getElem?_append_right (by omega), hl]
      simp

theorem leaf_cells {W : World} {base g n cp : Nat} (hown : W.ownsRow base 52 2 (.slice (some ⟨g, 0, none⟩) n cp) n (leafCells n)) :
    ∀ j, j < n → W.cell? ⟨g, j * 2, none⟩ = some (.float .f64 0) ∧ W.cell? ⟨g, j * 2 + 1, none⟩ = some (.string ⟨#[]⟩) := by
  intro j hj
  obtain ⟨a, b⟩ := leafCells_at n j hj
  exact ⟨(hown.cellAt _ (by omega)).trans a, (hown.cellAt _ (by omega)).trans b⟩

theorem built_next {w wr Wa w3 : World} {n k p : Nat} {f d : Int} {es : List (Nat × Int × Int)} (h : Built w wr n k es) (hA : Below wr.heap.size wr Wa) (he : ExprHi Wa w.heap.size p f d) (hf : okF f)
    (hg : Wa.grownBy w3 (some w.heap.size)) (ho : w3.ownsRow w.heap.size 29 1 (.slice (some ⟨w.heap.size, 0, none⟩) (k + 1) n) (k + 1) (ptrs es ++ [.pointer (some ⟨p, 0, none⟩)])) :
    Built w w3 n (k + 1) (es ++ [(p, f, d)]) := by
  obtain ⟨h1, h2, h3, h4⟩ := h
  refine ⟨by simp [h1], by simpa [ptrs] using ho, ((h3.kept (above_of_below hA)).kept (above_of_grown hg)).snoc (he.kept (above_of_grown hg)) hf, ?_⟩
  have h5 := h4.trans (hA.mono h4.size)
  exact h5.grown hg h5.size (fun q hq => by simp at hq; omega)

theorem one_new (W : World) (v : Value) {B : Nat} (h : W.cell? ⟨B, 0, none⟩ = some v) : ∀ j u, [v][j]? = some u → W.cell? ((⟨B, 0, none⟩ : Addr).add j) = some u := by
  intro j u hu
  match j, hu with
  | 0, hu => simp at hu; subst hu; simpa [Addr.add] using h

set_option maxRecDepth 100000 in
set_option maxHeartbeats 1600000 in
theorem law_some (a0 : Option Addr) (n cap : Nat) (how : Int) (w : World) (hn : n ≤ 1024) (hh : 0 ≤ how ∧ how ≤ 255) (hT : TabAt w)
    (hc : ∀ k, k < n → ∃ b off fn d pt, a0 = some ⟨b, off, none⟩ ∧ SpecAt w b off k fn d pt) :
    Calls Ybad.prog 3 #[.slice a0 n cap, .int .u8 how] w fun e w' => e = .returned (.bool true) ∧ Below w.heap.size w w' := by
  have HT : Hid (TabAt w) := hT
  have HC : Hid (∀ k, k < n → ∃ b off fn d pt, a0 = some ⟨b, off, none⟩ ∧ SpecAt w b off k fn d pt) := hc
  obtain ⟨hh0, hh1⟩ := hh
  have hn' : ¬ ((1024 : Int) < (n : Int)) := by omega
  clear hT hc
  obtain ⟨i0, hi0, hz0, hz1, hz2⟩ := info_parts info29
  go_enter Ybad.func3, Ybad.ntmps3
  go_wp2_with (at_make; refine wpList_make_own _ rfl _ _ 23 rfl w.heap.size 29 i0 _ 1 Ybad.underlying23 hi0 hz0 hz1 _ _ _ n rfl rfl (by omega) (by rw [hz2]; omega) (by unfold maxLen; omega) (Nat.le_refl _) ?_; intro w1 hown1 hgrow1)
  have hb1 : Below w.heap.size w w1 := (Below.refl _ _).grown hgrow1 (Nat.le_refl _) (by simp)
  have HO1 : Hid (w1.ownsRow w.heap.size 29 1 (.slice (some ⟨w.heap.size, 0, none⟩) 0 n) 0 (ptrs [])) := hown1
  clear hown1 hgrow1
  go_loopw [5, 6, 25] (fun ms want i wr => ∃ (k : Nat) (es : List (Nat × Int × Int)), k ≤ n ∧ i = .int .i64 k ∧ ms = .slice (some ⟨w.heap.size, 0, none⟩) k n ∧ want = .int .i64 (cntTo es k) ∧ Hid (Built w wr n k es)) (fun _ _ i _ => n - (intOf i).toNat)
  case atStart => exact ⟨0, [], Nat.zero_le _, rfl, rfl, rfl, ⟨rfl, HO1.out, (fun e h => by cases h), hb1⟩⟩
  case round =>
    obtain ⟨k, es, hk, rfl, rfl, rfl, hB⟩ := hrel
    have hlo : w.heap.size < wr.heap.size := hB.out.lt
    have hcl := cnt_le es k
    generalize hct : cntTo es k = ct at *
    have HCT : Hid (cntTo es k = ct) := hct
    clear hct HO1 hb1
    by_cases hlt : k < n
    · obtain ⟨b, off, fn, d, pt, ha, s0, s1, s2, s3, s4⟩ := HC.out k hlt
      subst ha
      have hbel := hB.out.2.2.2
      have e0 := cell_later hbel s0
      have e1 := cell_later hbel s1
      have e2 := cell_later hbel s2
      have k0 : (0 : Int) ≤ (k : Int) := Int.natCast_nonneg _
      have k1 : (k : Int) < (n : Int) := by omega
      clear hbel s0 s1 s2
      go_wp2_with fail
      refine (func_any fn s3 s4 _).mono ?_
      rintro e w' ⟨f, hf, rfl, hw'⟩
      subst hw'
      have HF : Hid (okF f) := hf
      clear hf
      by_cases f0 : f = 0
      · subst f0
        have HE : Hid (ExprHi (((wr.alloc (.cells #[.int .u8 fn, .int .i64 d, .bool pt] 25)).alloc (.cells #[.int .i64 0, .pointer none, .slice none 0 0, .bool pt, .int .i64 0, .int .i64 0, .string ⟨#[]⟩, .int .i64 0, .int .i64 d] 36)).alloc (.cells #[.pointer (some ⟨wr.heap.size + 1, 0, none⟩)] 29)) w.heap.size (wr.heap.size + 1) 0 d) :=
          .inl ⟨rfl, ⟨cells3 wr _ _ _ _ _ _ 0, cells3 wr _ _ _ _ _ _ 2, ⟨pt, cells3 wr _ _ _ _ _ _ 3⟩, cells3 wr _ _ _ _ _ _ 8⟩, by omega⟩
        have hgf : gv 0 = true := rfl
        have HCN : Hid (cntTo (es ++ [(wr.heap.size + 1, 0, d)]) (k + 1) = ct + (gv 0 && d == 0).toNat) := by rw [cnt_snoc es k _ 0 d hB.out.1, HCT.out]; exact rfl
        cases hd : (d == 0)
        all_goals
          go_wp2_with (at_builtin; refine wpList_append_fits _ rfl _ _ 23 rfl w.heap.size 29 i0 1 Ybad.underlying23 hi0 hz1 w.heap.size k n (ptrs es) rfl (((hB.out.2.1.alloc _).alloc _).alloc _) ⟨wr.heap.size + 1 + 1, 0, none⟩ 1 1 [.pointer (some ⟨wr.heap.size + 1, 0, none⟩)] rfl rfl (one_new _ _ (cells3' wr _ _ _ _ _ _ 0)) (by simp [Value.oneCell']) (by omega) ?_; intro w3 hown3 hgrow3)
          have HB3 := built_next hB.out (((Below.refl _ wr).alloc (Nat.le_refl _) _).alloc (by simp) _ |>.alloc (by simp; omega) _) HE.out HF.out hgrow3 hown3
          have HB4 : Hid (Built w w3 n (k + 1) (es ++ [(wr.heap.size + 1, 0, d)])) := HB3
          clear HB3 hown3 hgrow3 HE hB e0 e1 e2
          go_wp2
          go_roundw
          case rel => exact ⟨k + 1, _, by omega, by go_num, rfl, by rw [HCN.out, hgf, hd]; simp, HB4⟩
          case measure => simp [intOf]; omega
      · have hf0 : (f == 0) = false := by simpa using f0
        have HE : Hid (ExprHi ((((wr.alloc (.cells #[.int .u8 fn, .int .i64 d, .bool pt] 25)).alloc (.cells #[.int .i64 0, .pointer none, .slice none 0 0, .bool pt, .int .i64 0, .int .i64 0, .string ⟨#[]⟩, .int .i64 0, .int .i64 0] 36)).alloc (.cells #[.int .i64 f, .pointer (some ⟨wr.heap.size + 1, 0, none⟩), .slice none 0 0, .bool false, .int .i64 0, .int .i64 0, .string ⟨#[]⟩, .int .i64 0, .int .i64 d] 36)).alloc (.cells #[.pointer (some ⟨wr.heap.size + 1 + 1, 0, none⟩)] 29)) w.heap.size (wr.heap.size + 1 + 1) f d) :=
          .inr ⟨f0, by omega, cells4b wr _ _ _ _ _ _ _ _ 0, cells4b wr _ _ _ _ _ _ _ _ 8, wr.heap.size + 1, cells4b wr _ _ _ _ _ _ _ _ 1, ⟨cells4a wr _ _ _ _ _ _ _ _ 0, cells4a wr _ _ _ _ _ _ _ _ 2, ⟨pt, cells4a wr _ _ _ _ _ _ _ _ 3⟩, cells4a wr _ _ _ _ _ _ _ _ 8⟩, by omega⟩
        have HCN : Hid (cntTo (es ++ [(wr.heap.size + 1 + 1, f, d)]) (k + 1) = ct + (gv f && d == 0).toNat) := by rw [cnt_snoc es k _ f d hB.out.1, HCT.out]; exact rfl
        clear f0
        cases hgf : gv f <;> cases hd : (d == 0)
        all_goals
          go_wp2_with (at_builtin; refine wpList_append_fits _ rfl _ _ 23 rfl w.heap.size 29 i0 1 Ybad.underlying23 hi0 hz1 w.heap.size k n (ptrs es) rfl ((((hB.out.2.1.alloc _).alloc _).alloc _).alloc _) ⟨wr.heap.size + 1 + 1 + 1, 0, none⟩ 1 1 [.pointer (some ⟨wr.heap.size + 1 + 1, 0, none⟩)] rfl rfl (one_new _ _ (cells4c wr _ _ _ _ _ _ _ _ 0)) (by simp [Value.oneCell']) (by omega) ?_; intro w3 hown3 hgrow3)
          have HB3 := built_next hB.out (((Below.refl _ wr).alloc (Nat.le_refl _) _).alloc (by simp) _ |>.alloc (by simp; omega) _ |>.alloc (by simp; omega) _) HE.out HF.out hgrow3 hown3
          have HB4 : Hid (Built w w3 n (k + 1) (es ++ [(wr.heap.size + 1 + 1, f, d)])) := HB3
          clear HB3 hown3 hgrow3 HE hB e0 e1 e2
          go_wp2
          go_roundw
          case rel => exact ⟨k + 1, _, by omega, by go_num, rfl, by rw [HCN.out, hgf, hd]; simp, HB4⟩
          case measure => simp [intOf]; omega
    · have : k = n := by omega
      subst this
      have hbel := hB.out.2.2.2
      have hA : Below wr.heap.size wr (wr.alloc (.cells #[.string ⟨#[]⟩, .slice none 0 0, .slice none 0 0, .slice none 0 0, .int .i64 0, .slice none 0 0] 46)) := (Below.refl _ _).alloc (Nat.le_refl _) _
      go_wp2_with fail
      refine (cand_any wr.heap.size _ (by simp)).mono ?_
      rintro e w2 ⟨⟨cv, rfl⟩, hb2⟩
      have hb02 : Below w.heap.size w w2 := hbel.trans ((hA.trans (hb2.mono (by simp))).mono hbel.size)
      have hr2 : Below wr.heap.size wr w2 := hA.trans (hb2.mono (by simp))
      have HMS : Hid (MsAt w2 w.heap.size es) := hB.out.ms hr2
      have HL : Hid (es.length = k) := hB.out.1
      clear hbel hA hb2
      go_wp2_with fail
      refine (measure_any cv _ w.heap.size k k es _ HL.out hn HMS.out (HT.out.later hb02)).mono ?_
      rintro e w3 ⟨⟨v, rfl, hown, hv0⟩, hb3⟩
      rw [HCT.out] at hown hv0
      have hb03 : Below w.heap.size w w3 := hb02.trans (hb3.mono hb02.size)
      have hne1 := fun (w : World) => run_neq_slice_nil_any (P := Ybad.prog) w 47 52 none 0 0 0 0 Ybad.underlying47
      rcases Nat.eq_zero_or_pos ct with h0 | h0
      · obtain rfl := hv0 h0
        have hc0 : ((ct : Int) == 0) = true := by simp; omega
        have hc1 : ((0 : Int) != (ct : Int)) = false := by simp; omega
        clear hown hv0
        go_wp2_with fail
        refine wp_loop_rounds 1 ?_
        rw [rounds_succ]
        go_wp2
        go_ret
        exact ⟨rfl, hb03⟩
      · obtain ⟨gg, cp2, hv, hgg, _⟩ := hown.form h0
        subst hv
        have hc0 : ((ct : Int) == 0) = false := by simp; omega
        have HLC : Hid (∀ j, j < ct → w3.cell? ⟨gg, j * 2, none⟩ = some (.float .f64 0) ∧ w3.cell? ⟨gg, j * 2 + 1, none⟩ = some (.string ⟨#[]⟩)) := leaf_cells hown
        have hfl := fneq
        clear hown hv0
        go_wp2_with fail
        go_loopw [90] (fun i w4 => ∃ j : Nat, j ≤ ct ∧ i = .int .i64 j ∧ Below w3.heap.size w3 w4) (fun i _ => ct - (intOf i).toNat)
        case atStart => exact ⟨0, Nat.zero_le _, rfl, Below.refl _ _⟩
        case round =>
          obtain ⟨j, hj, rfl, hb4⟩ := hrel
          by_cases hjl : j < ct
          · obtain ⟨l0, l1⟩ := HLC.out j hjl
            have m0 := cell_later hb4 l0
            have m1 := cell_later hb4 l1
            have j0 : (0 : Int) ≤ (j : Int) := Int.natCast_nonneg _
            have j1 : (j : Int) < (ct : Int) := by omega
            clear l0 l1
            go_wp2
            go_roundw
            case rel => exact ⟨j + 1, by omega, by go_num, hb4.alloc hb4.size _⟩
            case measure => simp [intOf]; omega
          · go_wp2
            go_ret
            exact ⟨rfl, hb03.trans (hb4.mono hb03.size)⟩

theorem law_big (a0 : Option Addr) (n cap : Nat) (how : Int) (w : World) (hn : 1024 < n) :
    Calls Ybad.prog 3 #[.slice a0 n cap, .int .u8 how] w fun e w' => e = .returned (.bool true) ∧ Below w.heap.size w w' := by
  have hn' : (1024 : Int) < (n : Int) := by omega
  go_enter Ybad.func3, Ybad.ntmps3
  go_wp2
  go_ret
  exact ⟨rfl, Below.refl _ _⟩
end Go.Proofs.YbulkbylkDoor
