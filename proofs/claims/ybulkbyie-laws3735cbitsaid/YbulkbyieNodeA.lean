import Derived.Test.YbulkbyieProg
import Derived.WalkKit
import Derived.WalkSpells
import Derived.ProofKit
import Derived.Below
import Derived.BigQuiet
import Derived.Deep.QuietTactic
import Derived.Outline
namespace Go.Proofs.Ybulkbyie
open Go.RowKit

def hit (x : Int) : Bool := bits .and .u8 x 8 != 0

theorem any_snoc (fs : List Int) (k : Nat) (h : k < fs.length) (h0 : (fs.take k).any hit = false) : (fs.take (k + 1)).any hit = hit (fs[k]?.getD 0) := by
  rw [List.take_succ_eq_append_getElem h, List.any_append, h0]
  simp [h]
theorem ret_bool {a b : Bool} (h : a = b) : Ending.returned (.bool a) = .returned (.bool b) := by rw [h]
theorem any_of_hit (fs : List Int) (k : Nat) (h : k < fs.length) (h0 : (bits BinOp.and IntKind.u8 (fs[k]?.getD 0) 8 != 0) = true) : true = fs.any hit := by
  symm
  rw [List.any_eq_true]
  exact ⟨fs[k], List.getElem_mem h, by simpa [h, hit] using h0⟩
theorem any_next (fs : List Int) (k : Nat) (h : k < fs.length) (h0 : (fs.take k).any hit = false) (h1 : (bits BinOp.and IntKind.u8 (fs[k]?.getD 0) 8 != 0) = false) : (fs.take (k + 1)).any hit = false := by
  rw [any_snoc fs k h h0]; exact h1


set_option maxHeartbeats 400000 in
theorem stateless_any (B n cap g : Nat) (ty fs : List Int) (w : World) (hn : n ≤ 1024) (hf : fs.length = n)
    (hc : w.cell? ⟨B, 7, none⟩ = some (.slice (some ⟨g, 0, none⟩) n cap))
    (h0 : ∀ k, k < n → w.cell? ⟨g, k * 3, none⟩ = some (.int .u8 (ty.getD k 0)))
    (h1 : ∀ k, k < n → w.cell? ⟨g, k * 3 + 1, none⟩ = some (.int .u8 (fs.getD k 0)))
    (h2 : ∀ k, k < n → w.cell? ⟨g, k * 3 + 2, none⟩ = some (.slice none 0 0)) :
    Calls Yba.prog 15 #[.pointer (some ⟨B, 0, none⟩)] w fun e w' => e = .returned (.bool (fs.any hit)) ∧ Below w.heap.size w w' := by
  have HF : Hid (fs.length = n) := hf
  clear hf
  go_enter Yba.func15, Yba.ntmps15
  go_wp2
  go_loopw [10] (fun i wr => ∃ k : Nat, k ≤ n ∧ i = .int .i64 k ∧ Hid ((fs.take k).any hit = false) ∧ Below w.heap.size w wr) (fun i _ => n - (intOf i).toNat)
  case atStart => exact ⟨0, Nat.zero_le _, rfl, rfl, Below.refl _ _⟩
  case round =>
    obtain ⟨k, hk, rfl, hno, hbel⟩ := hrel
    by_cases hlt : k < n
    · have e0 := cell_later hbel (h0 k hlt)
      have e1 := cell_later hbel (h1 k hlt)
      have e2 := cell_later hbel (h2 k hlt)
      clear h0 h1 h2 hc
      have hlt' : (k : Int) < (n : Int) := by omega
      go_wp2
      · go_ret
        exact ⟨ret_bool (any_of_hit fs k (by have := HF.out; omega) (by assumption)), hbel.alloc hbel.size _⟩
      · go_roundw
        case rel => exact ⟨k + 1, by omega, by go_num, any_next fs k (by have := HF.out; omega) hno.out (by assumption), hbel.alloc hbel.size _⟩
        case measure => simp [intOf]; omega
    · go_wp2
      go_ret
      exact ⟨ret_bool (by have := hno.out; rw [List.take_of_length_le (by have := HF.out; omega)] at this; exact this.symm), hbel⟩

theorem stateless_zero (B cap : Nat) (oa : Option Addr) (w : World) (hc : w.cell? ⟨B, 7, none⟩ = some (.slice oa 0 cap)) :
    Calls Yba.prog 15 #[.pointer (some ⟨B, 0, none⟩)] w fun e w' => e = .returned (.bool false) ∧ Below w.heap.size w w' := by
  go_enter Yba.func15, Yba.ntmps15
  go_wp2
  refine wp_loop_rounds 1 ?_
  rw [rounds_succ]
  go_wp2
  go_ret
  exact ⟨rfl, Below.refl _ _⟩

end Go.Proofs.Ybulkbyie
