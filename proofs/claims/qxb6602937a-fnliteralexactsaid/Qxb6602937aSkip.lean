import Derived.Test.Qxb6602937aCopy
namespace Go.Proofs.Qxb6602937a
open Go.RowKit Go.Deep
set_option linter.unusedVariables false

/-- JSON's white space. -/
def sp (c : Int) : Bool := c == 32 || c == 9 || c == 10 || c == 13

/-- q is the first position from 'at' on that is the end or is not in the set p. -/
structure Stops (p : Int → Bool) (z : Nat → Int) (n k q : Nat) : Prop where
  lo : k ≤ q
  hi : q ≤ n
  run : ∀ j, k ≤ j → j < q → p (z j) = true
  stop : q < n → p (z q) = false

theorem Stops.uniq {p : Int → Bool} {z : Nat → Int} {n k q q' : Nat} (h : Stops p z n k q) (h' : Stops p z n k q') : q' = q := by
  rcases Nat.lt_trichotomy q' q with hlt | he | hgt
  · have h1 := h.run q' h'.lo hlt
    have h2 := h'.stop (by have := h.hi; omega)
    rw [h1] at h2; cases h2
  · exact he
  · have h1 := h'.run q h.lo hgt
    have h2 := h.stop (by have := h'.hi; omega)
    rw [h1] at h2; cases h2

theorem Stops.again {p : Int → Bool} {z : Nat → Int} {n k q q' : Nat} (h : Stops p z n k q) (h' : Stops p z n q q') : q' = q :=
  Stops.uniq (k := q) ⟨Nat.le_refl _, h.hi, fun j h1 h2 => by omega, h.stop⟩ h'

/-- A walker: its two fields. -/
def Walker (w : World) (b : Nat) (a : Option Addr) (n k : Nat) : Prop := w.heap[b]? = some (.cells #[.slice a n n, .int .i64 k] 35 (0, 0))

theorem Walker.cell0 {w : World} {b : Nat} {a : Option Addr} {n k : Nat} (h : Walker w b a n k) : w.cell? ⟨b, 0, none⟩ = some (.slice a n n) := by
  unfold Walker at h; simp [World.cell?, h]
theorem Walker.cell1 {w : World} {b : Nat} {a : Option Addr} {n k : Nat} (h : Walker w b a n k) : w.cell? ⟨b, 1, none⟩ = some (.int .i64 k) := by
  unfold Walker at h; simp [World.cell?, h]
theorem Walker.frozen1 {w : World} {b : Nat} {a : Option Addr} {n k : Nat} (h : Walker w b a n k) : w.frozen? ⟨b, 1, none⟩ = false := by
  unfold Walker at h; simp [World.frozen?, h]
theorem Walker.set {w : World} {b : Nat} {a : Option Addr} {n k : Nat} (h : Walker w b a n k) (k' : Nat) : Walker (w.setCell ⟨b, 1, none⟩ (.int .i64 k')) b a n k' := by
  unfold Walker at h ⊢; simp [World.setCell, Array.getElem?_modify, h]
theorem Walker.drewN {w : World} {b : Nat} {a : Option Addr} {n k : Nat} (h : Walker w b a n k) (m : Nat) : Walker (w.drewN m) b a n k := by
  exact h

theorem belowN {B : Nat} {a w : World} (h : Below B a w) (n : Nat) : Below B a (w.drewN n) := h.trans ⟨rfl, rfl, rfl, Nat.le_refl _, fun _ _ => rfl⟩

/-- What a round of a walker's loop keeps: the walker stands at q, all from k to q is in the set. -/
structure Round (p : Int → Bool) (z : Nat → Int) (w wr : World) (b n k q : Nat) (a : Option Addr) : Prop where
  lo : k ≤ q
  hi : q ≤ n
  run : ∀ j, k ≤ j → j < q → p (z j) = true
  walker : Walker wr b a n q
  below : Below b w wr
  size : wr.heap.size = w.heap.size

theorem Round.start {p : Int → Bool} {z : Nat → Int} {w : World} {b n k : Nat} {a : Option Addr} (hk : k ≤ n) (hW : Walker w b a n k) : Round p z w w b n k k a :=
  ⟨Nat.le_refl _, hk, fun j h1 h2 => by omega, hW, Below.refl _ _, rfl⟩

theorem Round.step {p : Int → Bool} {z : Nat → Int} {w wr : World} {b n k q : Nat} {a : Option Addr} (h : Round p z w wr b n k q a) (hlt : q < n) (hp : p (z q) = true) (m : Nat) :
    Round p z w ((wr.drewN m).setCell ⟨b, 1, none⟩ (.int .i64 ((q : Int) + 1))) b n k (q + 1) a := by
  refine ⟨by have := h.lo; omega, hlt, fun j h1 h2 => ?_, (h.walker.drewN m).set (q + 1), (belowN h.below m).setCell (Nat.le_refl _) _, by simpa using h.size⟩
  by_cases e : j = q
  · subst e; exact hp
  · exact h.run j h1 (by omega)

theorem Round.stops {p : Int → Bool} {z : Nat → Int} {w wr : World} {b n k q : Nat} {a : Option Addr} (h : Round p z w wr b n k q a) (hp : q < n → p (z q) = false) : Stops p z n k q :=
  ⟨h.lo, h.hi, h.run, hp⟩

set_option maxHeartbeats 1000000 in
theorem skip_any (b n k : Nat) (a : Option Addr) (z : Nat → Int) (w : World) (hn : n ≤ 1048576) (hk : k ≤ n) (hD : Dat w b a n z) (hW : Walker w b a n k) :
    Calls Try.prog 21 #[.pointer (some ⟨b, 0, none⟩)] w fun e w' => ∃ q : Nat, e = .returned (.int .i64 q) ∧ Stops sp z n k q ∧ Walker w' b a n q ∧ Below b w w' ∧ w'.heap.size = w.heap.size := by
  go_enter Try.func21, Try.ntmps21
  go_wp2
  go_loopg [] (n - k) (fun gk wr => ∃ q : Nat, gk = n - q ∧ Round sp z w wr b n k q a)
  case atStart => exact ⟨k, rfl, Round.start hk hW⟩
  case round =>
    obtain ⟨q, hgk, hR⟩ := hrel
    have h0 := hR.walker.cell0
    have h1 := hR.walker.cell1
    have h2 := hR.walker.frozen1
    have hqn := hR.hi
    have HG : Hid (gk = n - q) := hgk
    clear hgk
    by_cases hlt : q < n
    · rcases hD with rfl | ⟨g, rfl, hg, hrow⟩
      · omega
      have hc : wr.cell? ⟨g, q, none⟩ = some (.int .u8 (z q)) := (hR.below.cell (by exact hg)).trans (hrow.cell hlt)
      generalize hzq : z q = c at hc
      have HZ : Hid (z q = c) := hzq
      clear hzq
      have hlt' : (q : Int) < (n : Int) := by omega
      by_cases hsp : sp c = true
      · have hp : sp (z q) = true := by rw [HZ.out]; exact hsp
        have HP : Hid (sp (z q) = true) := hp
        clear hp
        have hcases : c = 32 ∨ c = 9 ∨ c = 10 ∨ c = 13 := by simpa [sp, or_assoc] using hsp
        clear hsp
        rcases hcases with rfl | rfl | rfl | rfl
        all_goals
          go_wp2
          go_quiet (fail)
          go_wp2
          go_quiet (fail)
          go_wp2
          go_roundg (n - (q + 1))
          case measure => have := HG.out; omega
          case rel => exact ⟨q + 1, rfl, hR.step hlt HP.out _⟩
      · have hne : (c == 32) = false ∧ (c == 9) = false ∧ (c == 10) = false ∧ (c == 13) = false := by simpa [sp, and_assoc] using hsp
        obtain ⟨e1, e2, e3, e4⟩ := hne
        have HP : Hid (sp (z q) = false) := by unfold Hid; rw [HZ.out]; simpa using hsp
        clear hsp
        go_wp2
        go_quiet (fail)
        go_wp2
        go_quiet (fail)
        go_wp2
        go_ret
        exact ⟨q, rfl, hR.stops (fun _ => HP.out), hR.walker.drewN _, belowN hR.below _, hR.size⟩
    · go_wp2
      go_quiet (fail)
      go_wp2
      go_ret
      exact ⟨q, rfl, hR.stops (fun h => absurd h hlt), hR.walker.drewN _, belowN hR.below _, hR.size⟩

theorem Dat.alloc {w : World} {a : Option Addr} {n : Nat} {z : Nat → Int} (h : Dat w w.heap.size a n z) (o : Obj) : Dat (w.alloc o) w.heap.size a n z := by
  rcases h with h | ⟨g, h1, h2, h3⟩
  · exact .inl h
  · exact .inr ⟨g, h1, h2, h3.alloc o⟩

theorem Dat.later {w w' : World} {a : Option Addr} {n : Nat} {z : Nat → Int} (h : Dat w w.heap.size a n z) (hb : Below w.heap.size w w') : Dat w' w'.heap.size a n z := by
  rcases h with h | ⟨g, h1, h2, h3⟩
  · exact .inl h
  · exact .inr ⟨g, h1, by have := hb.size; omega, h3.of_block (hb.block g h2)⟩

theorem walker_new (w : World) (a : Option Addr) (n k : Nat) : Walker (w.alloc (.cells #[.slice a n n, .int .i64 k] 35)) w.heap.size a n k := blk_alloc_new _ _

set_option maxHeartbeats 400000 in
theorem zzskip_any (n k : Nat) (a : Option Addr) (z : Nat → Int) (w : World) (hn : n ≤ 1048576) (hk : k ≤ n) (hD : Dat w w.heap.size a n z) :
    Calls Try.prog 11 #[.slice a n n, .int .i64 k] w fun e w' => ∃ q : Nat, e = .returned (.tuple #[.int .i64 q, .int .i64 q]) ∧ Stops sp z n k q ∧ Below w.heap.size w w' := by
  go_enter Try.func11, Try.ntmps11
  go_wp2_with fail
  refine (skip_any w.heap.size n k a z _ hn hk (hD.alloc _) (walker_new w a n k)).mono ?_
  rintro e w1 ⟨q, rfl, hS, hW1, hB1, hsz⟩
  have h1 := hW1.cell1
  go_wp2
  go_quiet (fail)
  go_wp2
  go_ret2
  exact ⟨q, rfl, hS, belowN (((Below.refl _ _).alloc (Nat.le_refl _) _).trans hB1) _⟩

end Go.Proofs.Qxb6602937a
