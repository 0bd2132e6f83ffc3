import Derived.Test.Qxb6602937aCopy
namespace Go.Proofs.Qxb6602937a
open Go.RowKit Go.Deep
set_option linter.unusedVariables false

/-- Is c one of the bytes of s? -/
def inSet (s : ByteArray) (c : Int) : Bool := s.data.toList.any fun x => ((x.toNat : Int) == c)

theorem inSet_hit {s : ByteArray} {c : Int} {k : Nat} (hk : k < s.size) (h : ((s[k].toNat : Int) == c) = true) : inSet s c = true := by
  unfold inSet
  rw [List.any_eq_true]
  exact ⟨s[k], by exact Array.getElem_mem_toList hk, h⟩

theorem inSet_miss {s : ByteArray} {c : Int} (h : ∀ j (hj : j < s.size), ((s[j].toNat : Int) == c) = false) : inSet s c = false := by
  unfold inSet
  rw [List.any_eq_false]
  intro x hx
  obtain ⟨i, hi, rfl⟩ := List.getElem_of_mem hx
  have hi' : i < s.data.size := by simpa using hi
  have h2 : (((s.data[i]'hi').toNat : Int) == c) = false := h i hi'
  simpa using h2

set_option maxHeartbeats 400000 in
theorem in_any (c : Int) (s : ByteArray) (w : World) (hs : s.size ≤ 1000) :
    Calls Try.prog 22 #[.int .u8 c, .string s] w fun e w' => e = .returned (.bool (inSet s c)) ∧ w' = w := by
  go_enter Try.func22, Try.ntmps22
  go_wp2
  go_loop [5] (fun i => ∃ k : Nat, k ≤ s.size ∧ i = .int .i64 k ∧ ∀ j (hj : j < s.size), j < k → ((s[j].toNat : Int) == c) = false) (fun i => s.size - (intOf i).toNat)
  case atStart => exact ⟨0, Nat.zero_le _, rfl, fun j hj h => absurd h (Nat.not_lt_zero _)⟩
  case round =>
    obtain ⟨k, hk, rfl, hno⟩ := hrel
    have HN : Hid (∀ j (hj : j < s.size), j < k → ((s[j].toNat : Int) == c) = false) := hno
    clear hno
    by_cases hlt : k < s.size
    · by_cases hx : ((s[k].toNat : Int) == c) = true
      · have HI : Hid (inSet s c = true) := inSet_hit hlt hx
        go_wp2
        go_ret
        exact ⟨by rw [HI.out]; rfl, rfl⟩
      · have hx' : ((s[k].toNat : Int) == c) = false := by simpa using hx
        clear hx
        have HX : Hid (((s[k].toNat : Int) == c) = false) := hx'
        go_wp2
        go_round
        case rel =>
          refine ⟨k + 1, by omega, by go_num, fun j hj hjk => ?_⟩
          by_cases e : j = k
          · subst e; exact HX.out
          · exact HN.out j hj (by omega)
        case measure => simp [intOf]; omega
    · have HI : Hid (inSet s c = false) := inSet_miss fun j hj => HN.out j hj (by omega)
      go_wp2
      go_ret
      exact ⟨by rw [HI.out]; rfl, rfl⟩

set_option maxHeartbeats 400000 in
theorem runof_yes (a : Option Addr) (n k q : Nat) (z : Nat → Int) (s : ByteArray) (w : World) (hs : s.size ≤ 1000) (hn : n ≤ 1048576) (hk : k ≤ q) (hq : q ≤ n) (hD : Dat w w.heap.size a n z)
    (hrun : ∀ j, k ≤ j → j < q → inSet s (z j) = true) :
    Calls Try.prog 12 #[.slice a n n, .int .i64 k, .int .i64 q, .string s] w fun e w' => e = .returned (.bool true) ∧ w' = w := by
  have HN : Hid (∀ j, k ≤ j → j < q → inSet s (z j) = true) := hrun
  have HD : Hid (Dat w w.heap.size a n z) := hD
  clear hrun hD
  go_enter Try.func12, Try.ntmps12
  go_wp2
  go_loop [9] (fun i => ∃ m : Nat, k ≤ m ∧ m ≤ q ∧ i = .int .i64 m) (fun i => q - (intOf i).toNat)
  case atStart => exact ⟨k, Nat.le_refl _, hk, rfl⟩
  case round =>
    obtain ⟨m, hm1, hm2, rfl⟩ := hrel
    by_cases hlt : m < q
    · rcases HD.out with rfl | ⟨g, rfl, hg, hrow⟩
      · omega
      have hc : w.cell? ⟨g, m, none⟩ = some (.int .u8 (z m)) := hrow.cell (by omega)
      have HI : Hid (inSet s (z m) = true) := HN.out m hm1 hlt
      generalize z m = c at hc HI
      have hmn : (m : Int) < (n : Int) := by omega
      go_wp2_with fail
      refine (in_any c s _ hs).mono ?_
      rintro e w' ⟨rfl, hw'⟩
      subst hw'
      rw [HI.out]
      go_wp2
      go_round
      case rel => exact ⟨m + 1, by omega, by omega, by go_num⟩
      case measure => simp [intOf]; omega
    · go_wp2
      go_ret
      exact ⟨rfl, rfl⟩

set_option maxHeartbeats 400000 in
theorem stopsat_yes (a : Option Addr) (n q : Nat) (z : Nat → Int) (s : ByteArray) (w : World) (hs : s.size ≤ 1000) (hn : n ≤ 1048576) (hq : q ≤ n) (hD : Dat w w.heap.size a n z)
    (hstop : q < n → inSet s (z q) = false) :
    Calls Try.prog 13 #[.slice a n n, .int .i64 q, .string s] w fun e w' => e = .returned (.bool true) ∧ w' = w := by
  by_cases hlt : q < n
  · rcases hD with rfl | ⟨g, rfl, hg, hrow⟩
    · omega
    have hc : w.cell? ⟨g, q, none⟩ = some (.int .u8 (z q)) := hrow.cell hlt
    have HI : Hid (inSet s (z q) = false) := hstop hlt
    generalize z q = c at hc HI
    clear hstop hrow
    have hne : ((q : Int) == (n : Int)) = false := beq_eq_false_iff_ne.2 (by omega)
    have hmn : (q : Int) < (n : Int) := by omega
    go_enter Try.func13, Try.ntmps13
    go_wp2_with fail
    refine (in_any c s _ hs).mono ?_
    rintro e w' ⟨rfl, hw'⟩
    subst hw'
    rw [HI.out]
    go_wp2
    go_ret
    exact ⟨rfl, rfl⟩
  · have he : ((q : Int) == (n : Int)) = true := beq_iff_eq.2 (by omega)
    clear hstop hD
    go_enter Try.func13, Try.ntmps13
    go_wp2
    go_ret
    exact ⟨rfl, rfl⟩

end Go.Proofs.Qxb6602937a
