import Derived.Test.YbulkbyieFmtCopy
import Derived.ProofKit
namespace Go.Proofs.YbulkbyieFmt
open Go.WideShapes (add_plain)
open Go.RowKit Go.Extern.Stop Go.Stop Go.Extern

set_option maxRecDepth 100000 in
set_option maxHeartbeats 800000 in
theorem roundtrip_walk (w : World) :
    Calls Ybaf.prog 5 #[] w fun e w' => e = .returned (.bool true) ∧ Below w.heap.size w w' := by
  have hB := (Below.refl w.heap.size w).alloc (Nat.le_refl _) (.cells #[.int .u8 0, .int .u8 0] 5)
  go_enter Ybaf.func5, Ybaf.ntmps5
  go_wp2_with (first | (go_at_call 9; refine (well_any w.heap.size 0 2 2 0 0 _ (by omega) (by omega) (by simp) (by simp) (by omega) (by omega)).mono ?_; rintro e w1 ⟨rfl, q, hq⟩; subst hq) | (go_at_call 7; refine (parse_good w.heap.size 0 2 2 0 0 _ (by omega) (by omega) (by omega) (by simp) (by simp) (by omega) (by omega) (by omega)).mono ?_; rintro e w2 ⟨rfl, hb2⟩) | go_in)
  go_ret
  have hb3 : Below w.heap.size ((w.alloc (.cells #[.int .u8 0, .int .u8 0] 5)).drewN q) w2 := hb2.mono (by simp)
  have hb1 : Below w.heap.size w ((w.alloc (.cells #[.int .u8 0, .int .u8 0] 5)).drewN q) := hB.trans ⟨rfl, rfl, rfl, Nat.le_refl _, fun _ _ => rfl⟩
  exact ⟨rfl, hb1.trans hb3⟩

set_option maxRecDepth 100000 in
set_option maxHeartbeats 800000 in
theorem exact_big (a0 : Option Addr) (n cap : Nat) (w : World) (h : 1048576 < n) :
    Calls Ybaf.prog 3 #[.slice a0 n cap] w fun e w' => e = .returned (.bool true) ∧ Below w.heap.size w w' := by
  have h' : (1048576 : Int) < (n : Int) := by omega
  go_enter Ybaf.func3, Ybaf.ntmps3
  go_wp2
  go_ret
  exact ⟨rfl, Below.refl _ _⟩

set_option maxRecDepth 100000 in
set_option maxHeartbeats 800000 in
theorem exact_some (F : Interp) (b off n cap : Nat) (zs : List Int) (a : Addr) (w : World) (hF : F.answers w.tape) (hn : 2 ≤ n) (hn2 : n ≤ 1048576) (hz : n ≤ zs.length) (hw : ∀ j : Nat, 0 ≤ zs.getD j 0 ∧ zs.getD j 0 ≤ 255)
    (hg : w.cell? ⟨0, 0, none⟩ = some (.iface 44 (.pointer (some a))))
    (hc : ∀ k, k < n → w.cell? ⟨b, off + k, none⟩ = some (.int .u8 (zs.getD k 0))) :
    Calls Ybaf.prog 3 #[.slice (some ⟨b, off, none⟩) n cap] w fun e w' => e = .returned (.bool true) ∧ Below w.heap.size w w' := by
  have HF : Hid (F.answers w.tape) := hF
  have HW : Hid (∀ j : Nat, 0 ≤ zs.getD j 0 ∧ zs.getD j 0 ≤ 255) := hw
  have HC : Hid (∀ k, k < n → w.cell? ⟨b, off + k, none⟩ = some (.int .u8 (zs.getD k 0))) := hc
  have hn' : ¬ ((1048576 : Int) < (n : Int)) := by omega
  clear hF hw hc
  go_enter Ybaf.func3, Ybaf.ntmps3
  go_wp2_with fail
  refine (copy_any ⟨b, off, none⟩ n cap zs w (by omega) hz (fun k hk => by rw [add_plain]; exact HC.out k hk)).mono ?_
  rintro e w1 ⟨rfl, hb1, hrow⟩
  have HR : Hid (∀ k, k < n → w1.cell? ⟨w.heap.size, k, none⟩ = some (.int .u8 (zs.getD k 0))) := row_cells hz hrow
  clear hrow
  have HA : Hid (∃ z0 z1 : Int, zs.getD 0 0 = z0 ∧ zs.getD 1 0 = z1) := ⟨_, _, rfl, rfl⟩
  obtain ⟨z0, z1, hq0, hq1⟩ := HA.out
  clear HA
  have x0 : w1.cell? ⟨w.heap.size, 0, none⟩ = some (.int .u8 z0) := by rw [← hq0]; exact HR.out 0 (by omega)
  have x1 : w1.cell? ⟨w.heap.size, 0 + 1, none⟩ = some (.int .u8 z1) := by rw [← hq1]; exact HR.out 1 (by omega)
  have y0 : w.cell? ⟨b, off, none⟩ = some (.int .u8 z0) := by rw [← hq0]; exact HC.out 0 (by omega)
  have y1 : w.cell? ⟨b, off + 1, none⟩ = some (.int .u8 z1) := by rw [← hq1]; exact HC.out 1 (by omega)
  have r0 : 0 ≤ z0 ∧ z0 ≤ 255 := by rw [← hq0]; exact HW.out 0
  have r1 : 0 ≤ z1 ∧ z1 ≤ 255 := by rw [← hq1]; exact HW.out 1
  clear hq0 hq1
  go_wp2_with fail
  refine (parse_any F w.heap.size 0 n n z0 z1 a _ (by rw [hb1.tape]; exact HF.out) hn (Nat.le_refl _) (by omega) (cell_later hb1 hg) x0 x1 r0 r1).mono ?_
  rintro e w2 ⟨he, hb2⟩
  have hb12 : Below w.heap.size w w2 := hb1.trans (hb2.mono hb1.size)
  rcases he with ⟨hq, rfl⟩ | ⟨hq, p, rfl⟩
  all_goals
    go_wp2_with fail
    refine (same_any w.heap.size 0 n b off cap n zs _ (by omega) (fun k hk => by rw [Nat.zero_add]; exact cell_later hb2 (HR.out k hk)) (fun k hk => cell_later hb12 (HC.out k hk))).mono ?_
    rintro e w3 ⟨rfl, hb3⟩
    have hb13 := hb12.trans (hb3.mono hb12.size)
    have t0 := cell_later hb13 y0
    have t1 := cell_later hb13 y1
    clear y0 y1 x0 x1
    go_wp2_with fail
    go_quiet ((go_at_call 9; exact Calls.quiet_of (well_any b off n cap z0 z1 _ hn (by omega) (by simpa using t0) (by simpa using t1) r0 r1)))
    go_wp2
    go_ret
    exact ⟨rfl, hb13.trans ⟨rfl, rfl, rfl, Nat.le_refl _, fun _ _ => rfl⟩⟩

/-- Fewer than two bytes: what the copy came to, and that 'same' says yes, are handed in. -/
theorem exact_less (a0 a1 : Option Addr) (n cap c1 : Nat) (a : Addr) (w : World) (hn : n < 2)
    (hg : w.cell? ⟨0, 0, none⟩ = some (.iface 44 (.pointer (some a))))
    (hcopy : Calls Ybaf.prog 6 #[.slice a0 n cap] w fun e w' => e = .returned (.slice a1 n c1) ∧ Below w.heap.size w w' ∧ ∀ w2, Below w'.heap.size w' w2 → Calls Ybaf.prog 8 #[.slice a1 n c1, .slice a0 n cap] w2 fun e w3 => e = .returned (.bool true) ∧ Below w2.heap.size w2 w3) :
    Calls Ybaf.prog 3 #[.slice a0 n cap] w fun e w' => e = .returned (.bool true) ∧ Below w.heap.size w w' := by
  have HC : Hid (Calls Ybaf.prog 6 #[.slice a0 n cap] w fun e w' => e = .returned (.slice a1 n c1) ∧ Below w.heap.size w w' ∧ ∀ w2, Below w'.heap.size w' w2 → Calls Ybaf.prog 8 #[.slice a1 n c1, .slice a0 n cap] w2 fun e w3 => e = .returned (.bool true) ∧ Below w2.heap.size w2 w3) := hcopy
  clear hcopy
  have hn' : ¬ ((1048576 : Int) < (n : Int)) := by omega
  go_enter Ybaf.func3, Ybaf.ntmps3
  go_wp2_with fail
  refine HC.out.mono ?_
  rintro e w1 ⟨rfl, hb1, hsame⟩
  have HS : Hid (∀ w2, Below w1.heap.size w1 w2 → Calls Ybaf.prog 8 #[.slice a1 n c1, .slice a0 n cap] w2 fun e w3 => e = .returned (.bool true) ∧ Below w2.heap.size w2 w3) := hsame
  clear hsame
  go_wp2_with fail
  refine (parse_short a1 n c1 a _ (cell_later hb1 hg) hn).mono ?_
  rintro e w2 ⟨rfl, hb2⟩
  have hb12 : Below w.heap.size w w2 := hb1.trans (hb2.mono hb1.size)
  go_wp2_with fail
  refine (HS.out _ hb2).mono ?_
  rintro e w3 ⟨rfl, hb3⟩
  have hb13 := hb12.trans (hb3.mono hb12.size)
  go_wp2_with fail
  go_quiet ((go_at_call 9; exact Calls.quiet_of (well_short a0 n cap _ hn)))
  go_wp2
  go_ret
  exact ⟨rfl, hb13.trans ⟨rfl, rfl, rfl, Nat.le_refl _, fun _ _ => rfl⟩⟩

/-- A slice of bytes that came in: nil; or a row of 'cap' numbers, each a byte. -/
def IsRow (w : World) (a : Option Addr) (len cap : Nat) (zs : List Int) : Prop :=
  (a = none ∧ len = 0 ∧ cap = 0 ∧ zs = []) ∨
  ∃ x, a = some x ∧ len ≤ cap ∧ cap ≤ maxLen ∧ zs.length = cap ∧ (∀ i, i < zs.length → w.cell? (x.add i) = some (.int .u8 (zs.getD i 0))) ∧ ∀ n ∈ zs, (Lit.int .u8 n).wf = true

theorem byte_range {zs : List Int} (h : ∀ n ∈ zs, (Lit.int .u8 n).wf = true) (j : Nat) : 0 ≤ zs.getD j 0 ∧ zs.getD j 0 ≤ 255 := by
  by_cases hj : j < zs.length
  · have := h zs[j] (List.getElem_mem hj)
    simp [Lit.wf, IntKind.min, IntKind.max, IntKind.signed, IntKind.bits] at this
    simp [hj]
    omega
  · simp [List.getElem?_eq_none (by omega : zs.length ≤ j)]

theorem exact_walk (F : Interp) (a0 : Option Addr) (n cap : Nat) (zs : List Int) (a : Addr) (w : World) (hF : F.answers w.tape) (hg : w.cell? ⟨0, 0, none⟩ = some (.iface 44 (.pointer (some a)))) (w0 : IsRow w a0 n cap zs) :
    Calls Ybaf.prog 3 #[.slice a0 n cap] w fun e w' => e = .returned (.bool true) ∧ Below w.heap.size w w' := by
  rcases Nat.lt_or_ge 1048576 n with h | h
  · exact exact_big a0 n cap w h
  rcases w0 with ⟨rfl, rfl, rfl, rfl⟩ | ⟨x, rfl, hl, hm, hz, hc, hw⟩
  · refine exact_less none none 0 0 0 a w (by omega) hg ((copy_nil w).mono ?_)
    rintro e w' ⟨rfl, rfl⟩
    exact ⟨rfl, Below.refl _ _, fun w2 _ => same_zero none none 0 0 w2⟩
  rcases Nat.eq_zero_or_pos n with h0 | h0
  · subst h0
    refine exact_less (some x) (some ⟨w.heap.size, 0, none⟩) 0 cap 0 a w (by omega) hg ((copy_any x 0 cap zs w (by omega) (by omega) (fun k hk => by omega)).mono ?_)
    rintro e w' ⟨rfl, hb, _⟩
    exact ⟨rfl, hb, fun w2 _ => same_zero _ _ _ _ w2⟩
  obtain ⟨b, off, spot⟩ := x
  have hspot : spot = none := by simpa [Addr.add] using World.cell?_spot (hc 0 (by omega))
  subst hspot
  have hc' : ∀ k, k < n → w.cell? ⟨b, off + k, none⟩ = some (.int .u8 (zs.getD k 0)) := fun k hk => by rw [← add_plain]; exact hc k (by omega)
  rcases Nat.lt_or_ge n 2 with h2 | h2
  · refine exact_less (some ⟨b, off, none⟩) (some ⟨w.heap.size, 0, none⟩) n cap n a w h2 hg ((copy_any ⟨b, off, none⟩ n cap zs w (by omega) (by omega) (fun k hk => hc k (by omega))).mono ?_)
    rintro e w' ⟨rfl, hb, hrow⟩
    refine ⟨rfl, hb, fun w2 hb2 => ?_⟩
    exact same_any w.heap.size 0 n b off cap n zs w2 (by omega) (fun k hk => by rw [Nat.zero_add]; exact cell_later hb2 (row_cells (by omega) hrow k hk)) (fun k hk => cell_later hb2 (cell_later hb (hc' k hk)))
  · exact exact_some F b off n cap zs a w hF h2 h (by omega) (byte_range hw) hg hc'
end Go.Proofs.YbulkbyieFmt
