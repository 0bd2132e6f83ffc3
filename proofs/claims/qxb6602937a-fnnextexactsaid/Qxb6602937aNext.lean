import Derived.Test.Qxb6602937aSkip
namespace Go.Proofs.Qxb6602937a
open Go.RowKit Go.Deep
set_option linter.unusedVariables false

/-- The byte at which the next token starts; 0 at the end. -/
def peek (z : Nat → Int) (n q : Nat) : Int := if q < n then z q else 0

set_option maxHeartbeats 400000 in
theorem next_any (b n k : Nat) (a : Option Addr) (z : Nat → Int) (w : World) (hn : n ≤ 1048576) (hk : k ≤ n) (hD : Dat w b a n z) (hW : Walker w b a n k) :
    Calls Try.prog 23 #[.pointer (some ⟨b, 0, none⟩)] w fun e w' => ∃ q : Nat, e = .returned (.int .u8 (peek z n q)) ∧ Stops sp z n k q ∧ Walker w' b a n q ∧ Below b w w' ∧ w'.heap.size = w.heap.size := by
  go_enter Try.func23, Try.ntmps23
  go_wp2_with fail
  refine (skip_any b n k a z _ hn hk hD hW).mono ?_
  rintro e w1 ⟨q, rfl, hS, hW1, hB1, hsz⟩
  have h0 := hW1.cell0
  have h1 := hW1.cell1
  have hq := hS.hi
  by_cases hlt : q < n
  · rcases hD with rfl | ⟨g, rfl, hg, hrow⟩
    · omega
    have hc : w1.cell? ⟨g, q, none⟩ = some (.int .u8 (z q)) := (hB1.cell (by exact hg)).trans (hrow.cell hlt)
    have HP : Hid (peek z n q = z q) := by unfold Hid peek; rw [if_pos hlt]
    generalize z q = c at hc HP
    have hne : ((q : Int) == (n : Int)) = false := beq_eq_false_iff_ne.2 (by omega)
    have hlt' : (q : Int) < (n : Int) := by omega
    go_wp2
    go_quiet (fail)
    go_wp2
    go_quiet (fail)
    go_wp2
    go_ret
    exact ⟨q, by rw [HP.out]; rfl, hS, (hW1.drewN _).drewN _, belowN (belowN hB1 _) _, hsz⟩
  · have HP : Hid (peek z n q = 0) := by unfold Hid peek; rw [if_neg hlt]
    have he : ((q : Int) == (n : Int)) = true := beq_iff_eq.2 (by omega)
    go_wp2
    go_quiet (fail)
    go_wp2
    go_ret
    exact ⟨q, by rw [HP.out]; rfl, hS, hW1.drewN _, belowN hB1 _, hsz⟩

set_option maxHeartbeats 400000 in
theorem zznext_any (n k : Nat) (a : Option Addr) (z : Nat → Int) (w : World) (hn : n ≤ 1048576) (hk : k ≤ n) (hD : Dat w w.heap.size a n z) :
    Calls Try.prog 16 #[.slice a n n, .int .i64 k] w fun e w' => ∃ q : Nat, e = .returned (.tuple #[.int .u8 (peek z n q), .int .i64 q]) ∧ Stops sp z n k q ∧ Below w.heap.size w w' := by
  go_enter Try.func16, Try.ntmps16
  go_wp2_with fail
  refine (next_any w.heap.size n k a z _ hn hk (hD.alloc _) (walker_new w a n k)).mono ?_
  rintro e w1 ⟨q, rfl, hS, hW1, hB1, hsz⟩
  have h1 := hW1.cell1
  go_wp2
  go_quiet (fail)
  go_wp2
  go_ret2
  exact ⟨q, rfl, hS, belowN (((Below.refl _ _).alloc (Nat.le_refl _) _).trans hB1) _⟩

end Go.Proofs.Qxb6602937a
