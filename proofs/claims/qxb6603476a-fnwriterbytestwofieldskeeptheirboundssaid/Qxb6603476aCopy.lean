import Derived.Test.Qxb6603476aRows
import Derived.WalkKit
import Derived.ProofKit
import Derived.OpenShut
import Derived.WalkSpells
import Derived.Below
import Derived.Deep.OwnRows
import Derived.Deep.LoopGhost
import Derived.Deep.QuietTactic
import Derived.BigQuiet
namespace Go.Proofs.Qxb6603476a
open Go.RowKit Go.Deep
set_option linter.unusedVariables false

theorem Try.info5 : (Try.prog.info? 5).map (fun i => (i.zero, i.size, i.bytes)) = some (some (.int .u8 0), 1, 1) := by kernel_rfl

theorem below_of_since {B : Nat} {w w' : World} (h : w.Since B w') : Below B w w' := ⟨h.os, h.tape, h.output, h.size, h.block⟩

/-- What holds of the copy when k of its bytes are written. -/
structure Copied (w wr : World) (n k : Nat) (z : Nat → Int) : Prop where
  below : Below w.heap.size w wr
  size : wr.heap.size = w.heap.size + 1
  row : wr.rowIs w.heap.size 5 n (fun i => if i < k then .int .u8 (z i) else .int .u8 0)

theorem copied_start (w : World) (n : Nat) (z : Nat → Int) : Copied w (w.alloc (.cells (madeCells #[.int .u8 0] n) 5)) n 0 z :=
  ⟨(Below.refl _ _).alloc (Nat.le_refl _) _, by simp, (World.rowIs_made w _ n 5).congr (fun j _ => by simp)⟩

theorem copied_step {w wr : World} {n k : Nat} {z : Nat → Int} (h : Copied w wr n k z) : Copied w (wr.setCell ⟨w.heap.size, k, none⟩ (.int .u8 (z k))) n (k + 1) z := by
  refine ⟨h.below.setCell (Nat.le_refl _) _, by simp [h.size], (h.row.set k _).congr (fun j _ => ?_)⟩
  by_cases e : j = k
  · subst e; simp
  · rw [if_neg e]
    by_cases hlt : j < k
    · rw [if_pos hlt, if_pos (by omega)]
    · rw [if_neg hlt, if_neg (by omega)]

theorem copy_nil (w : World) : Calls Try.prog 6 #[.slice none 0 0] w fun e w' => e = .returned (.slice none 0 0) ∧ w' = w := by
  have hq := fun wx => Lib.run_eql_slice_nil (P := Try.prog) wx 22 5 none 0 0 0 0 Try.underlying22
  go_enter Try.func6, Try.ntmps6
  go_wp2
  go_ret
  exact ⟨rfl, rfl⟩

set_option maxHeartbeats 400000 in
theorem copy_row (b off len cap : Nat) (z : Nat → Int) (w : World) (hlen : len ≤ 1048576) (hb : b < w.heap.size) (hc : ∀ i, i < len → w.cell? ⟨b, off + i, none⟩ = some (.int .u8 (z i))) :
    Calls Try.prog 6 #[.slice (some ⟨b, off, none⟩) len cap] w fun e w' => e = .returned (.slice (some ⟨w.heap.size, 0, none⟩) len len) ∧ Copied w w' len len z := by
  have hq := fun wx => Lib.run_eql_slice_nil (P := Try.prog) wx 22 5 (some ⟨b, off, none⟩) len cap 0 0 Try.underlying22
  have hmk := run_make_row' (P := Try.prog) 22 5 (.int .u8 0) 1 Try.underlying22 Try.info5 rfl .i64 .i64 len (by omega) (by omega)
  go_enter Try.func6, Try.ntmps6
  go_wp2
  go_loopw [4] (fun i wr => ∃ k : Nat, k ≤ len ∧ i = .int .i64 k ∧ Copied w wr len k z) (fun i _ => len - (intOf i).toNat)
  case atStart => exact ⟨0, Nat.zero_le _, rfl, copied_start w len z⟩
  case round =>
    obtain ⟨k, hk, rfl, hcp⟩ := hrel
    by_cases hlt : k < len
    · have h1 : wr.cell? ⟨b, off + k, none⟩ = some (.int .u8 (z k)) := (hcp.below.cell (by exact hb)).trans (hc k hlt)
      have h2 : wr.cell? ⟨w.heap.size, k, none⟩ = some (.int .u8 0) := by have := hcp.row.cell hlt; simpa using this
      have h3 := hcp.row.frozen k
      have hs := copied_step hcp
      go_wp2
      go_roundw
      case rel => exact ⟨k + 1, by omega, by go_num, hs⟩
      case measure => simp [intOf]; omega
    · have hkl : k = len := by omega
      subst hkl
      go_wp2
      go_ret
      exact ⟨rfl, hcp⟩

theorem copy_zero (x : Addr) (cap : Nat) (z : Nat → Int) (w : World) :
    Calls Try.prog 6 #[.slice (some x) 0 cap] w fun e w' => e = .returned (.slice (some ⟨w.heap.size, 0, none⟩) 0 0) ∧ Copied w w' 0 0 z := by
  have hq := fun wx => Lib.run_eql_slice_nil (P := Try.prog) wx 22 5 (some x) 0 cap 0 0 Try.underlying22
  have hmk : ∀ w : World, (Instr.makeSlice 22 (.int .i64 0) (.int .i64 0)).run Try.prog w = .ok (.slice (some ⟨w.heap.size, 0, none⟩) 0 0) (w.alloc (.cells (madeCells #[.int .u8 0] 0) 5)) :=
    run_make_row' (P := Try.prog) 22 5 (.int .u8 0) 1 Try.underlying22 Try.info5 rfl .i64 .i64 0 (by omega) (by omega)
  go_enter Try.func6, Try.ntmps6
  go_wp2
  refine wp_loop_rounds 1 ?_
  rw [rounds_succ]
  go_wp2
  go_ret
  exact ⟨rfl, copied_start w 0 z⟩

/-- WHAT THE WALK IS TOLD OF A SLICE OF INTEGERS THAT CAME IN (the shell's own words): it is nil; or it leads to a row of 'cap' cells, the numbers 'zs'. -/
def IsRow (k : IntKind) (w : World) (a : Option Addr) (len cap : Nat) (zs : List Int) : Prop :=
  (a = none ∧ len = 0 ∧ cap = 0 ∧ zs = []) ∨
  ∃ x, a = some x ∧ len ≤ cap ∧ cap ≤ maxLen ∧ zs.length = cap ∧ (∀ i, i < zs.length → w.cell? (x.add i) = some (.int k (zs.getD i 0))) ∧ ∀ n ∈ zs, (Lit.int k n).wf = true

end Go.Proofs.Qxb6603476a
