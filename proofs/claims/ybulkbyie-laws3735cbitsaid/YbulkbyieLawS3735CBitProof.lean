import Derived.Test.YbulkbyieRows
import Derived.WalkKit
import Derived.ProofKit
import Derived.OpenShut
import Derived.ShutString
import Derived.ChangeOld
import Derived.Below
import Derived.Test.YbulkbyieNodeC
namespace Go.Proofs.Ybulkbyie.lawS3735CBit
open Go.ChangeShapes Go.WideShapes Go.ChangeAt Go.RowKit
open Go.ChangeMaps (open_string shut_string)
set_option linter.unusedVariables false

theorem own : ownKnob Yba.prog.godebug = none := by kernel_rfl
theorem laidOut : laidOutB Yba.prog = true := by kernel_rfl

/-- WHAT THE WALK IS TOLD OF A SLICE OF INTEGERS THAT CAME IN: it is nil; or it leads to a row of 'cap' cells, the numbers 'zs' (the first 'len' are its elements, the rest its spare room), each fitting its kind. -/
def IsRow (k : IntKind) (w : World) (a : Option Addr) (len cap : Nat) (zs : List Int) : Prop :=
  (a = none ∧ len = 0 ∧ cap = 0 ∧ zs = []) ∨
  ∃ x, a = some x ∧ len ≤ cap ∧ cap ≤ maxLen ∧ zs.length = cap ∧ (∀ i, i < zs.length → w.cell? (x.add i) = some (.int k (zs.getD i 0))) ∧ ∀ n ∈ zs, (Lit.int k n).wf = true

theorem walk_big (a0 : Option Addr) (len0 cap0 : Nat) (a1 : Int) (w : World) (h : 1024 < len0) :
    Calls Yba.prog 5 #[.slice a0 len0 cap0, .int .u8 a1] w fun e w' => e = .returned (.bool true) ∧ Below w.heap.size w w' := by
  go_enter Yba.func5, Yba.ntmps5
  go_wp2
  go_ret
  exact ⟨rfl, Below.refl _ _⟩

theorem Yba.info5 : (Yba.prog.info? 5).map (fun i => (i.zero, i.size, i.bytes)) = some (some (.int .u8 0), 1, 1) := by kernel_rfl


theorem own_below {w w' : World} {base : Nat} {e : TypeId} {size : Nat} {v : Value} {n : Nat} {xs : List Value} (h : w.ownsRow base e size v n xs) (hb : Below w.heap.size w w') : w'.ownsRow base e size v n xs := by
  obtain ⟨h1, h2⟩ := h
  refine ⟨h1, ?_⟩
  rcases h2 with h2 | ⟨g, cap, cur, hv, hg, hh, r⟩
  · exact Or.inl h2
  · refine Or.inr ⟨g, cap, cur, hv, hg, ?_, r⟩
    rw [hb.block g (by rcases Nat.lt_or_ge g w.heap.size with h | h; exact h; rw [Array.getElem?_eq_none h] at hh; cases hh)]
    exact hh

theorem fin_clear : ∀ n : Fin 256, hit (bits .andNot .u8 (n.val : Int) 8) = false := by decide +kernel
theorem fin_or : ∀ n : Fin 256, hit (bits .or .u8 (n.val : Int) 8) = true := by decide +kernel
theorem fin_wf : ∀ n : Fin 256, 0 ≤ bits .andNot .u8 (n.val : Int) 8 ∧ bits .andNot .u8 (n.val : Int) 8 ≤ 255 := by decide +kernel
theorem hit_clear (z : Int) (h : 0 ≤ z ∧ z ≤ 255) : hit (bits .andNot .u8 z 8) = false := by
  have := fin_clear ⟨z.toNat, by omega⟩
  simpa [Int.toNat_of_nonneg h.1] using this
theorem hit_or (z : Int) (h : 0 ≤ z ∧ z ≤ 255) : hit (bits .or .u8 z 8) = true := by
  have := fin_or ⟨z.toNat, by omega⟩
  simpa [Int.toNat_of_nonneg h.1] using this
theorem clear_wf (z : Int) (h : 0 ≤ z ∧ z ≤ 255) : 0 ≤ bits .andNot .u8 z 8 ∧ bits .andNot .u8 z 8 ≤ 255 := by
  have := fin_wf ⟨z.toNat, by omega⟩
  simpa [Int.toNat_of_nonneg h.1] using this

theorem store_int {w : World} {base g n cap : Nat} {xs : List Int} (h : w.ownsRow base 5 1 (.slice (some ⟨g, 0, none⟩) n cap) n (xs.map (Value.int .u8))) (j : Nat) (z : Int) :
    (w.setCell ⟨g, j, none⟩ (.int .u8 z)).ownsRow base 5 1 (.slice (some ⟨g, 0, none⟩) n cap) n ((xs.set j z).map (Value.int .u8)) ∧ w.grownBy (w.setCell ⟨g, j, none⟩ (.int .u8 z)) (some g) := by
  have := h.stored j (.int .u8 z)
  rw [List.map_set]
  exact this

theorem below_of_setCell {B : Nat} (w : World) (a : Addr) (v : Value) (h : B ≤ a.block) : Below B w (w.setCell a v) := (Below.refl _ _).setCell h v

theorem set_next (xs zs : List Int) (k : Nat) (h : k < xs.length) (hx : ∀ j, j < k → xs.getD j 0 = bits .andNot .u8 (zs.getD j 0) 8) :
    ∀ j, j < k + 1 → (xs.set k (bits .andNot .u8 (zs[k]?.getD 0) 8)).getD j 0 = bits .andNot .u8 (zs.getD j 0) 8 := by
  intro j hj
  by_cases e : j = k
  · subst e; simp [h]
  · have := hx j (by omega)
    simp only [List.getD_eq_getElem?_getD] at this ⊢
    rw [List.getElem?_set_ne (by omega)]
    exact this

theorem cells_of {w : World} {base g n cap : Nat} {xs : List Int} (h : w.ownsRow base 5 1 (.slice (some ⟨g, 0, none⟩) n cap) n (xs.map (Value.int .u8))) (hl : xs.length = n) :
    ∀ k, k < n → w.cell? ⟨g, 0 + k, none⟩ = some (.int .u8 (xs.getD k 0)) := by
  intro k hk
  rw [Nat.zero_add, h.cellAt k (by omega)]
  simp [show k < xs.length by omega]

theorem none_hit (xs zs : List Int) (k : Nat) (hl : k ≤ xs.length) (hx : ∀ j, j < k → xs.getD j 0 = bits .andNot .u8 (zs.getD j 0) 8) (hw : ∀ j : Nat, 0 ≤ zs[j]?.getD 0 ∧ zs[j]?.getD 0 ≤ 255) : (xs.take k).any hit = false := by
  rw [List.any_eq_false]
  intro x hm
  obtain ⟨j, hj, rfl⟩ := List.getElem_of_mem hm
  have hj' : j < k := by simp at hj; omega
  have := hx j hj'
  simp only [List.getD_eq_getElem?_getD, List.getElem?_eq_getElem (show j < xs.length by omega), Option.getD_some] at this
  rw [List.getElem_take, this, hit_clear _ (hw j)]
  simp

theorem xs_wf (xs zs : List Int) (k m : Nat) (hm : m < k) (hx : ∀ j, j < k → xs.getD j 0 = bits .andNot .u8 (zs.getD j 0) 8) (hw : ∀ j : Nat, 0 ≤ zs[j]?.getD 0 ∧ zs[j]?.getD 0 ≤ 255) : 0 ≤ xs[m]?.getD 0 ∧ xs[m]?.getD 0 ≤ 255 := by
  have := hx m hm
  simp only [List.getD_eq_getElem?_getD] at this
  rw [this]
  exact clear_wf _ (hw m)

theorem some_hit (xs : List Int) (k m : Nat) (z : Int) (hm : m < k) (hl : k ≤ xs.length) (hz : hit z = true) : ((xs.set m z).take k).any hit = true := by
  rw [List.any_eq_true]
  refine ⟨z, ?_, hz⟩
  rw [List.mem_take_iff_getElem]
  exact ⟨m, by simp; omega, by simp⟩

set_option maxRecDepth 100000 in
set_option maxHeartbeats 800000 in
theorem walk_some (b off n cap : Nat) (zs : List Int) (a1 : Int) (w : World) (hn : n ≤ 1024) (hn0 : 0 < n) (hz : n ≤ zs.length) (hw : ∀ j : Nat, 0 ≤ zs[j]?.getD 0 ∧ zs[j]?.getD 0 ≤ 255) (ha : 0 ≤ a1 ∧ a1 ≤ 255)
    (hc : ∀ k, k < n → w.cell? ⟨b, off + k, none⟩ = some (.int .u8 (zs.getD k 0))) :
    Calls Yba.prog 5 #[.slice (some ⟨b, off, none⟩) n cap, .int .u8 a1] w fun e w' => e = .returned (.bool true) ∧ Below w.heap.size w w' := by
  have HW : Hid (∀ j : Nat, 0 ≤ zs[j]?.getD 0 ∧ zs[j]?.getD 0 ≤ 255) := hw
  clear hw
  obtain ⟨i0, hi0, hz0, hz1, hz2⟩ := info_parts Yba.info5
  go_enter Yba.func5, Yba.ntmps5
  go_wp2_with (at_make; refine wpList_make_full _ rfl _ _ 22 rfl w.heap.size 5 i0 _ 1 Yba.underlying22 hi0 hz0 hz1 _ _ _ _ n rfl rfl (by omega) (by omega) (by rw [hz2]; omega) (by unfold maxLen; omega) (by simp) ?_; intro w1 hown1 hgrow1)
  have hb1 : Below w.heap.size w w1 := (Below.refl _ _).grown hgrow1 (Nat.le_refl _) (by simp)
  have hown2 : w1.ownsRow w.heap.size 5 1 (.slice (some ⟨w.heap.size, 0, none⟩) n n) n ((List.replicate n (0 : Int)).map (Value.int .u8)) := by
    have e : (madeCells (Value.int IntKind.u8 0).cells (n * 1)).toList = (List.replicate n (0 : Int)).map (Value.int .u8) := by
      rw [show (Value.int IntKind.u8 0).cells = #[Value.int IntKind.u8 0] from rfl, toList_madeCells_one]; simp
    rw [← e]; exact hown1
  clear hown1 hgrow1
  go_loopw [6] (fun i wr => ∃ (k : Nat) (xs : List Int), k ≤ n ∧ i = .int .i64 k ∧ xs.length = n ∧ wr.ownsRow w.heap.size 5 1 (.slice (some ⟨w.heap.size, 0, none⟩) n n) n (xs.map (Value.int .u8)) ∧ (∀ j, j < k → xs.getD j 0 = bits .andNot .u8 (zs.getD j 0) 8) ∧ Below w.heap.size w wr) (fun i _ => n - (intOf i).toNat)
  case atStart => exact ⟨0, _, Nat.zero_le _, rfl, by simp, hown2, by omega, hb1⟩
  case round =>
    obtain ⟨k, xs, hk, rfl, hxl, hown, hx, hbel⟩ := hrel
    have HX : Hid (∀ j, j < k → xs.getD j 0 = bits .andNot .u8 (zs.getD j 0) 8) := hx
    have HL : Hid (xs.length = n) := hxl
    clear hx hxl hown2 hb1
    by_cases hlt : k < n
    · have e0 := cell_later hbel (hc k hlt)
      have e1 := hown.cellAt k (by omega)
      have e2 : wr.cell? ⟨w.heap.size, k, none⟩ = some (.int .u8 (xs.getD k 0)) := by rw [e1]; simp [show k < xs.length from by rw [HL.out]; exact hlt]
      have f2 := hown.frozenAt k
      have hk0 : (0 : Int) ≤ (k : Int) := Int.natCast_nonneg _
      have hk' : (k : Int) < (n : Int) := by omega
      clear e1 hc
      go_wp2
      go_roundw
      case rel =>
        have hs := store_int hown k (bits .andNot .u8 (zs[k]?.getD 0) 8)
        exact ⟨k + 1, xs.set k (bits .andNot .u8 (zs[k]?.getD 0) 8), by omega, by go_num, by simpa using HL.out, hs.1, set_next xs zs k (by rw [HL.out]; exact hlt) HX.out, hbel.trans (below_of_setCell _ _ _ (Nat.le_refl _))⟩
      case measure => simp [intOf]; omega
    · have : k = n := by omega
      subst this
      clear hc
      have hcs := cells_of hown HL.out
      go_wp2_with fail
      refine (msg_any w.heap.size 0 k k xs 0 _ hn hcs).mono ?_
      rintro e w3 ⟨rfl, hb3, g3, cp3, hown3, hm3⟩
      go_wp2_with fail
      refine (stateless_built hn (by have := HL.out; omega) hown3 hm3).mono ?_
      rintro e w4 ⟨rfl, hb4⟩
      have hno : (xs.take k).any hit = false := none_hit xs zs k (by have := HL.out; omega) HX.out HW.out
      have hb34 : Below wr.heap.size wr w4 := hb3.trans (hb4.mono hb3.size)
      have hown4 := own_below hown hb34
      have hbel4 : Below w.heap.size w w4 := hbel.trans (hb34.mono hbel.size)
      clear hown3 hm3 hb3 hb4 hb34 hown hbel hcs
      obtain ⟨m, hm⟩ : ∃ m : Nat, a1 % (k : Int) = (m : Int) := ⟨(a1 % (k : Int)).toNat, by have := Int.emod_nonneg a1 (show (k : Int) ≠ 0 by omega); omega⟩
      have hmk : m < k := by have := Int.emod_lt_of_pos a1 (show (0 : Int) < (k : Int) by omega); omega
      have hk0 : ((k : Int) == 0) = false := by simp; omega
      have e1 := cells_of hown4 HL.out m hmk
      simp only [Nat.zero_add] at e1
      have f1 := hown4.frozenAt m
      have hm0 : (0 : Int) ≤ (m : Int) := Int.natCast_nonneg _
      have hm' : (m : Int) < (k : Int) := by omega
      have ha0 := ha.1
      have ha1 := ha.2
      go_wp2_with fail
      have hst := store_int hown4 m (bits .or .u8 (xs[m]?.getD 0) 8)
      have hcs := cells_of hst.1 (by simpa using HL.out)
      refine (msg_any w.heap.size 0 k k (xs.set m (bits .or .u8 (xs[m]?.getD 0) 8)) 0 _ hn hcs).mono ?_
      rintro e w5 ⟨rfl, hb5, g5, cp5, hown5, hm5⟩
      rw [show (w4.setCell ⟨w.heap.size, m, none⟩ (Value.int .u8 (bits .or .u8 (xs[m]?.getD 0) 8))).heap.size = w4.heap.size from by simp] at hm5 hown5
      go_wp2_with fail
      refine (stateless_built hn (by have := HL.out; simp; omega) hown5 hm5).mono ?_
      rintro e w6 ⟨rfl, hb6⟩
      have hyes : ((xs.set m (bits .or .u8 (xs[m]?.getD 0) 8)).take k).any hit = true := some_hit xs k m _ hmk (by have := HL.out; omega) (hit_or _ (xs_wf xs zs k m hmk HX.out HW.out))
      have hb56 := hb5.trans (hb6.mono hb5.size)
      have hend : Below w.heap.size w w6 := (hbel4.trans (below_of_setCell w4 ⟨w.heap.size, m, none⟩ (.int .u8 (bits .or .u8 (xs[m]?.getD 0) 8)) (Nat.le_refl _))).trans (hb56.mono (by have := hbel4.size; simp; omega))
      clear hst hcs hb5 hb6 hown5 hm5 hb56
      go_wp2
      go_ret
      exact ⟨rfl, hend⟩

set_option maxRecDepth 100000 in
set_option maxHeartbeats 800000 in
theorem walk_zero (a0 : Option Addr) (cap : Nat) (a1 : Int) (w : World) :
    Calls Yba.prog 5 #[.slice a0 0 cap, .int .u8 a1] w fun e w' => e = .returned (.bool true) ∧ Below w.heap.size w w' := by
  obtain ⟨i0, hi0, hz0, hz1, hz2⟩ := info_parts Yba.info5
  go_enter Yba.func5, Yba.ntmps5
  go_wp2_with (at_make; refine wpList_make_full _ rfl _ _ 22 rfl w.heap.size 5 i0 _ 1 Yba.underlying22 hi0 hz0 hz1 _ _ _ _ 0 rfl rfl (by simp) (by simp) (by omega) (by unfold maxLen; omega) (by simp) ?_; intro w1 hown1 hgrow1)
  have hb1 : Below w.heap.size w w1 := (Below.refl _ _).grown hgrow1 (Nat.le_refl _) (by simp)
  clear hown1 hgrow1
  refine wp_loop_rounds 1 ?_
  rw [rounds_succ]
  go_wp2_with fail
  refine (msg_any w.heap.size 0 0 0 [] 0 _ (by omega) (fun k hk => by omega)).mono ?_
  rintro e w3 ⟨rfl, hb3, g3, cp3, hown3, hm3⟩
  go_wp2_with fail
  refine (stateless_built (by omega) (by simp) hown3 hm3).mono ?_
  rintro e w4 ⟨rfl, hb4⟩
  clear hown3 hm3
  go_wp2
  go_ret
  exact ⟨rfl, hb1.trans ((hb3.trans (hb4.mono hb3.size)).mono hb1.size)⟩

theorem walk (a0 : Option Addr) (len0 cap0 : Nat) (z0 : List Int) (a1 : Int) (w : World) (w0 : IsRow .u8 w a0 len0 cap0 z0) (w1 : (Lit.int .u8 a1).wf = true) :
    Calls Yba.prog 5 #[.slice a0 len0 cap0, .int .u8 a1] w fun e w' => e = .returned (.bool true) ∧ Below w.heap.size w w' := by
  rcases Nat.lt_or_ge 1024 len0 with h | h
  · exact walk_big a0 len0 cap0 a1 w h
  · rcases w0 with ⟨rfl, rfl, rfl, rfl⟩ | ⟨x, rfl, hl, hm, hz, hc, hw⟩
    · exact walk_zero none 0 a1 w
    · rcases Nat.eq_zero_or_pos len0 with h0 | h0
      · subst h0
        exact walk_zero (some x) cap0 a1 w
      · obtain ⟨b, off, spot⟩ := x
        have hspot : spot = none := by simpa [Addr.add] using World.cell?_spot (hc 0 (by omega))
        subst hspot
        exact walk_some b off len0 cap0 z0 a1 w h h0 (by omega) (range_u8 hw) (bounds_u8 w1) (fun k hk => by rw [← add_plain]; exact hc k (by omega))

/-! ### THE ROW's STEP: WRITTEN OUT: LEAVE IT -/
set_option maxRecDepth 100000 in
theorem lifted (os : Os) (started : os.Started) (H : Type) (enc : TypeId × Value → H) :
    ReturnsInHanded {} Yba.checked os 5 .any (Rows.lawS3735CBitSpec.pre6 enc Yba.prog Yba.f5 Rows.lawS3735CBitRow.domain false) (Rows.lawS3735CBitSpec.post enc Yba.prog Yba.f5 false true false false) := by
  refine returnsInHanded_of_change (C := Yba.checked) own started (by kernel_rfl) Yba.func5
    (ChangeSpec.witness6 (enc := enc) (C := Yba.checked) false ⟨#[], #[.slice none 0 0, .int .u8 0], []⟩ 8 (by kernel_rfl) (by kernel_rfl) (by kernel_rfl) (by kernel_rfl)) ?_
  intro W base args ds gs before hval0 hW hcnd _
  have hval : ∀ (j : Nat) t v, Yba.f5.params[j]? = some t → args[j]? = some v → Value.okWide Yba.prog W .any base t v := hval0
  have hW' := hW
  obtain ⟨p, q, hA0, hV, rfl, hfz, hnd⟩ := hW
  have hA : DataW.TrodAll enc Yba.prog W 0 (fun _ => true) true Yba.f5.params.toList args.toList ds p := hA0
  rw [Yba.params5] at hA hval
  obtain ⟨v0, vs0, d0, ds0, p0, q0, hargs, rfl, rfl, h0, r0⟩ := trodAll_cons hA
  obtain ⟨v1, vs1, d1, ds1, p1, q1, rfl, rfl, rfl, h1, r1⟩ := trodAll_cons r0
  obtain ⟨rfl, rfl, rfl⟩ := trodAll_nil r1
  obtain rfl : args = #[v0, v1] := by cases args; simp_all
  obtain ⟨rfl, rfl⟩ := trodVars_none hV
  obtain ⟨a0, len0, cap0, rfl⟩ := okWide_slice Yba.underlying22 (hval 0 22 v0 rfl rfl)
  have k0 := h0
  have lt0 : ∀ x ∈ p0, x.block < W.heap.size := by obtain ⟨m, hm⟩ := k0; exact DataW.trod_lt m _ _ _ hm
  obtain ⟨z0, w0⟩ : ∃ zs, IsRow .u8 W a0 len0 cap0 zs := by
    obtain ⟨fuel, hf⟩ := h0
    rcases open_ints Yba.underlying22 Yba.underlying5 (by kernel_rfl) hf with ⟨hcs, _⟩ | ⟨x, l, c, zs, hcs, _, hl, hm, hz, _, hcell, hwz⟩
    · simp [Value.cells] at hcs
      obtain ⟨rfl, rfl, rfl⟩ := hcs
      exact ⟨[], .inl ⟨rfl, rfl, rfl, rfl⟩⟩
    · simp [Value.cells] at hcs
      obtain ⟨rfl, rfl, rfl⟩ := hcs
      exact ⟨zs, .inr ⟨_, rfl, hl, hm, by simpa using hz, hcell, hwz⟩⟩
  obtain ⟨a1, rfl, rfl, rfl, w1⟩ := open_int Yba.underlying5 (hval 1 5 v1 rfl rfl) h1
  clear hA0 hval0
  refine (walk a0 len0 cap0 z0 a1 W w0 w1).mono fun e W' ⟨he, bel⟩ => ?_
  subst he
  exact ⟨_, rfl, _, _, _, [], _, [], hW', trodAll_mk1 (shut_bool Yba.underlying4 _), (trodAll_cons_mk (Below.trod laidOut (by kernel_rfl) (of_decide_eq_true (by kernel_rfl)) k0 bel lt0) (trodAll_cons_mk (shut_int Yba.underlying5 w1) trodAll_mk0)), rfl, bel.frame _, fun h => by cases h⟩

theorem over : Rows.lawS3735CBitRow.holds Yba.pinned (OpenSpec.ofChange Rows.lawS3735CBitSpec) :=
  OpenClaim.holds_of_wide 5 Yba.f5 rfl rfl rfl rfl rfl rfl rfl ⟨rfl, rfl, rfl, rfl, rfl⟩ rfl rfl rfl rfl rfl (by kernel_rfl) Yba.func5 (by kernel_rfl)
    (of_decide_eq_true (by kernel_rfl)) (by unfold Func.isWrapper; first | (rw [if_pos (by decide +kernel)]; kernel_rfl) | (rw [if_neg (by decide +kernel)]; exact ⟨rfl, rfl⟩))
    (fun os started H enc _ => lifted os started H enc)

/-- ████ THE STATEMENT ████ -/
theorem proved : Rows.LawS3735CBitSaid := over
end Go.Proofs.Ybulkbyie.lawS3735CBit
