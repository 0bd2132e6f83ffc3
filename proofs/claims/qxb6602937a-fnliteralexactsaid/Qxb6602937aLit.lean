import Derived.Test.Qxb6602937aSkip
namespace Go.Proofs.Qxb6602937a
open Go.RowKit Go.Deep
set_option linter.unusedVariables false

/-- The bytes of a number, true, false or null. -/
def lit (c : Int) : Bool := (decide (97 ≤ c) && decide (c ≤ 122)) || (decide (48 ≤ c) && decide (c ≤ 57)) || c == 45 || c == 43 || c == 46 || c == 69

theorem lit_yes {c : Int} (h : lit c = true) : (97 ≤ c ∧ c ≤ 122) ∨ (48 ≤ c ∧ c ≤ 57) ∨ c = 45 ∨ c = 43 ∨ c = 46 ∨ c = 69 := by
  simp [lit] at h
  omega

theorem lit_no {c : Int} (h : lit c = false) : ((c == 45) = false ∧ (c == 43) = false ∧ (c == 46) = false ∧ (c == 69) = false) ∧ (c < 48 ∨ (58 ≤ c ∧ c < 97) ∨ 122 < c) := by
  simp [lit] at h
  refine ⟨⟨beq_eq_false_iff_ne.2 (by omega), beq_eq_false_iff_ne.2 (by omega), beq_eq_false_iff_ne.2 (by omega), beq_eq_false_iff_ne.2 (by omega)⟩, by omega⟩

set_option maxHeartbeats 2000000 in
theorem lit_any (b n k : Nat) (a : Option Addr) (z : Nat → Int) (w : World) (hn : n ≤ 1048576) (hk : k ≤ n) (hD : Dat w b a n z) (hW : Walker w b a n k) :
    Calls Try.prog 24 #[.pointer (some ⟨b, 0, none⟩)] w fun e w' => ∃ q : Nat, e = .returned (.bool (decide (k < q))) ∧ Stops lit z n k q ∧ Walker w' b a n q ∧ Below b w w' ∧ w'.heap.size = w.heap.size := by
  have hs1 := hW.cell1
  go_enter Try.func24, Try.ntmps24
  go_wp2
  clear hs1
  go_loopg [] (n - k) (fun gk wr => ∃ q : Nat, gk = n - q ∧ Round lit z w wr b n k q a)
  case atStart => exact ⟨k, rfl, Round.start hk hW⟩
  case round =>
    obtain ⟨q, hgk, hR⟩ := hrel
    have h0 := hR.walker.cell0
    have h1 := hR.walker.cell1
    have h2 := hR.walker.frozen1
    have hqn := hR.hi
    have hqk := hR.lo
    have HG : Hid (gk = n - q) := hgk
    clear hgk
    by_cases hlt : q < n
    · rcases hD with rfl | ⟨g, rfl, hg, hrow⟩
      · omega
      have hc : wr.cell? ⟨g, q, none⟩ = some (.int .u8 (z q)) := (hR.below.cell (by exact hg)).trans (hrow.cell hlt)
      generalize hzq : z q = c at hc
      have HZ : Hid (z q = c) := hzq
      clear hzq
      have hlt' : (q : Int) < (n : Int) := by omega
      by_cases hsp : lit c = true
      · have HP : Hid (lit (z q) = true) := by unfold Hid; rw [HZ.out]; exact hsp
        rcases lit_yes hsp with ⟨e1, e2⟩ | ⟨e1, e2⟩ | rfl | rfl | rfl | rfl
        all_goals
          clear hsp
          go_wp2
          go_quiet (fail)
          go_wp2
          go_quiet (fail)
          go_wp2
          go_roundg (n - (q + 1))
          case measure => have := HG.out; omega
          case rel => exact ⟨q + 1, rfl, hR.step hlt HP.out _⟩
      · have hsp' : lit c = false := by simpa using hsp
        have HP : Hid (lit (z q) = false) := by unfold Hid; rw [HZ.out]; exact hsp'
        obtain ⟨⟨b1, b2, b3, b4⟩, hr⟩ := lit_no hsp'
        clear hsp hsp'
        rcases hr with e1 | ⟨e1, e2⟩ | e1
        · have d1 : decide (97 ≤ c) = false := decide_eq_false (by omega)
          have d2 : decide (48 ≤ c) = false := decide_eq_false (by omega)
          go_wp2
          go_quiet (fail)
          go_wp2
          go_quiet (fail)
          go_wp2
          go_ret
          exact ⟨q, by simp, hR.stops (fun _ => HP.out), hR.walker.drewN _, belowN hR.below _, hR.size⟩
        · have d1 : decide (97 ≤ c) = false := decide_eq_false (by omega)
          have d2 : decide (c ≤ 57) = false := decide_eq_false (by omega)
          go_wp2
          go_quiet (fail)
          go_wp2
          go_quiet (fail)
          go_wp2
          go_ret
          exact ⟨q, by simp, hR.stops (fun _ => HP.out), hR.walker.drewN _, belowN hR.below _, hR.size⟩
        · have d1 : decide (c ≤ 122) = false := decide_eq_false (by omega)
          have d2 : decide (c ≤ 57) = false := decide_eq_false (by omega)
          go_wp2
          go_quiet (fail)
          go_wp2
          go_quiet (fail)
          go_wp2
          go_ret
          exact ⟨q, by simp, hR.stops (fun _ => HP.out), hR.walker.drewN _, belowN hR.below _, hR.size⟩
    · go_wp2
      go_quiet (fail)
      go_wp2
      go_ret
      exact ⟨q, by simp, hR.stops (fun h => absurd h hlt), hR.walker.drewN _, belowN hR.below _, hR.size⟩

set_option maxHeartbeats 400000 in
theorem zzlit_any (n k : Nat) (a : Option Addr) (z : Nat → Int) (w : World) (hn : n ≤ 1048576) (hk : k ≤ n) (hD : Dat w w.heap.size a n z) :
    Calls Try.prog 19 #[.slice a n n, .int .i64 k] w fun e w' => ∃ q : Nat, e = .returned (.tuple #[.bool (decide (k < q)), .int .i64 q]) ∧ Stops lit z n k q ∧ Below w.heap.size w w' := by
  go_enter Try.func19, Try.ntmps19
  go_wp2_with fail
  refine (lit_any w.heap.size n k a z _ hn hk (hD.alloc _) (walker_new w a n k)).mono ?_
  rintro e w1 ⟨q, rfl, hS, hW1, hB1, hsz⟩
  have h1 := hW1.cell1
  go_wp2
  go_quiet (fail)
  go_wp2
  go_ret2
  exact ⟨q, rfl, hS, belowN (((Below.refl _ _).alloc (Nat.le_refl _) _).trans hB1) _⟩

end Go.Proofs.Qxb6602937a
