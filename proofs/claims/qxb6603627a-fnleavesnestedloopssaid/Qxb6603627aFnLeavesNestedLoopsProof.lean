/-
  The proof of Rows.FnLeavesNestedLoopsSaid: the frame is the shell of the seat, its one gap filled.
-/
import Derived.Test.Qxb6603627aRows
import Derived.WalkKit
import Derived.ProofKit
import Derived.OpenShut
import Derived.ShutString
namespace Go.Proofs.Qxb6603627a.fnLeavesNestedLoops
open Go.ChangeShapes Go.WideShapes Go.ChangeAt Go.RowKit
open Go.ChangeMaps (open_string shut_string)
set_option linter.unusedVariables false      -- a walk need not use every 'w<i>' (that an integer argument fits its kind)

theorem own : ownKnob Try.prog.godebug = none := by kernel_rfl

/-! ### THE WALK -/
theorem leaves_one (w : World) : Calls Try.prog 4 #[.int .u8 1] w fun e w' => e = .returned (.tuple #[.int .u8 0, .bool true]) ∧ w' = w := by
  go_enter Try.func4, Try.ntmps4
  go_wp2
  go_ret2
  exact ⟨rfl, rfl⟩

theorem leaves_three (w : World) : Calls Try.prog 4 #[.int .u8 3] w fun e w' => e = .returned (.tuple #[.int .u8 3, .bool true]) ∧ w' = w := by
  go_enter Try.func4, Try.ntmps4
  go_wp2
  go_ret2
  exact ⟨rfl, rfl⟩

theorem leaves_zero (w : World) : Calls Try.prog 4 #[.int .u8 0] w fun e w' => e = .returned (.tuple #[.int .u8 0, .bool false]) ∧ w' = w := by
  go_enter Try.func4, Try.ntmps4
  go_wp2
  go_ret2
  exact ⟨rfl, rfl⟩

theorem leaves_else (c : Int) (w : World) (h1 : (c == 1) = false) (h3 : (c == 3) = false) : Calls Try.prog 4 #[.int .u8 c] w fun e w' => e = .returned (.tuple #[.int .u8 0, .bool false]) ∧ w' = w := by
  go_enter Try.func4, Try.ntmps4
  go_wp2
  go_ret2
  exact ⟨rfl, rfl⟩

/-- A return leaves all n loops. -/
theorem walk_three (n : Nat) (w : World) (hn : n ≤ 65536) :
    Calls Try.prog 3 #[.int .u8 3, .int .i64 n] w fun e w' => e = .returned (.bool true) ∧ w' = w := by
  go_enter Try.func3, Try.ntmps3
  go_wp2
  go_loop [5, 6] (fun cur left => ∃ k : Nat, k ≤ n ∧ left = .int .i64 k ∧ cur = .int .u8 3) (fun _ left => n - (intOf left).toNat)
  case atStart => exact ⟨0, Nat.zero_le _, rfl, rfl⟩
  case round =>
    obtain ⟨k, hk, rfl, rfl⟩ := hrel
    by_cases hlt : k < n
    · go_wp2_with fail
      refine (leaves_three _).mono ?_
      rintro e w' ⟨rfl, hw'⟩
      subst hw'
      go_wp2
      go_round
      case rel => exact ⟨k + 1, by omega, by go_num, rfl⟩
      case measure => simp [intOf]; omega
    · obtain rfl : k = n := by omega
      go_wp2
      go_ret
      exact ⟨rfl, rfl⟩

/-- A break leaves one loop. -/
theorem walk_one (n : Nat) (w : World) (hn : n ≤ 65536) :
    Calls Try.prog 3 #[.int .u8 1, .int .i64 n] w fun e w' => e = .returned (.bool true) ∧ w' = w := by
  by_cases h0 : n = 0
  · subst h0
    go_enter Try.func3, Try.ntmps3
    go_wp2
    refine wp_loop_rounds 1 ?_
    rw [rounds_succ]
    go_wp2
    go_ret
    exact ⟨rfl, rfl⟩
  · have hz : ((n : Int) == 0) = false := beq_eq_false_iff_ne.2 (by omega)
    have hp : (0 : Int) < (n : Int) := by omega
    go_enter Try.func3, Try.ntmps3
    go_wp2
    go_loop [5, 6] (fun cur left => ∃ k : Nat, k ≤ 1 ∧ left = .int .i64 k ∧ cur = .int .u8 (1 - k)) (fun _ left => 1 - (intOf left).toNat)
    case atStart => exact ⟨0, Nat.zero_le _, rfl, rfl⟩
    case round =>
      obtain ⟨k, hk, rfl, rfl⟩ := hrel
      by_cases hk0 : k = 0
      · subst hk0
        go_wp2_with fail
        refine (leaves_one _).mono ?_
        rintro e w' ⟨rfl, hw'⟩
        subst hw'
        go_wp2
        go_round
        case rel => exact ⟨1, by omega, rfl, rfl⟩
        case measure => simp [intOf]
      · obtain rfl : k = 1 := by omega
        by_cases h1 : n = 1
        · subst h1
          go_wp2
          go_ret
          exact ⟨rfl, rfl⟩
        · have hq : (1 : Int) < (n : Int) := by omega
          go_wp2_with fail
          refine (leaves_zero _).mono ?_
          rintro e w' ⟨rfl, hw'⟩
          subst hw'
          go_wp2
          go_ret
          exact ⟨rfl, rfl⟩

/-- Any other code leaves none. -/
theorem walk_else (c : Int) (n : Nat) (w : World) (hn : n ≤ 65536) (h1 : (c == 1) = false) (h3 : (c == 3) = false) :
    Calls Try.prog 3 #[.int .u8 c, .int .i64 n] w fun e w' => e = .returned (.bool true) ∧ w' = w := by
  by_cases h0 : n = 0
  · subst h0
    go_enter Try.func3, Try.ntmps3
    go_wp2
    refine wp_loop_rounds 1 ?_
    rw [rounds_succ]
    go_wp2
    go_ret
    exact ⟨rfl, rfl⟩
  · have hp : (0 : Int) < (n : Int) := by omega
    go_enter Try.func3, Try.ntmps3
    go_wp2
    refine wp_loop_rounds 1 ?_
    rw [rounds_succ]
    go_wp2_with fail
    refine (leaves_else c _ h1 h3).mono ?_
    rintro e w' ⟨rfl, hw'⟩
    subst hw'
    go_wp2
    go_ret
    exact ⟨rfl, rfl⟩

theorem walk (a0 : Int) (a1 : Int) (w0 : (Lit.int .u8 a0).wf = true) (w1 : (Lit.int .i64 a1).wf = true) (w : World) :
    Calls Try.prog 3 #[.int .u8 a0, .int .i64 a1] w fun e w' => e = .returned (.bool true) ∧ Grown w w' := by
  by_cases hneg : a1 < 0
  · go_enter Try.func3, Try.ntmps3
    go_wp2
    go_ret
    exact ⟨rfl, Grown.refl _⟩
  by_cases hbig : 65536 < a1
  · go_enter Try.func3, Try.ntmps3
    go_wp2
    go_ret
    exact ⟨rfl, Grown.refl _⟩
  obtain ⟨n, rfl⟩ := Int.eq_ofNat_of_zero_le (by omega : 0 ≤ a1)
  have hn : n ≤ 65536 := by omega
  by_cases h3 : a0 = 3
  · subst h3
    refine (walk_three n w hn).mono ?_
    rintro e w' ⟨rfl, rfl⟩
    exact ⟨rfl, Grown.refl _⟩
  by_cases h1 : a0 = 1
  · subst h1
    refine (walk_one n w hn).mono ?_
    rintro e w' ⟨rfl, rfl⟩
    exact ⟨rfl, Grown.refl _⟩
  refine (walk_else a0 n w hn (beq_eq_false_iff_ne.2 h1) (beq_eq_false_iff_ne.2 h3)).mono ?_
  rintro e w' ⟨rfl, rfl⟩
  exact ⟨rfl, Grown.refl _⟩

/-! ### THE ROW's STEP: WRITTEN OUT: LEAVE IT -/
set_option maxRecDepth 100000 in
theorem lifted (os : Os) (started : os.Started) (H : Type) (enc : TypeId × Value → H) :
    ReturnsInHanded {} Try.checked os 3 .any (Rows.fnLeavesNestedLoopsSpec.pre6 enc Try.prog Try.f3 Rows.fnLeavesNestedLoopsRow.domain false) (Rows.fnLeavesNestedLoopsSpec.post enc Try.prog Try.f3 false true false false) := by
  refine returnsInHanded_of_change (C := Try.checked) own started (by kernel_rfl) Try.func3
    (ChangeSpec.witness6 (enc := enc) (C := Try.checked) false ⟨#[], #[.int .u8 0, .int .i64 0], []⟩ 8 (by kernel_rfl) (by kernel_rfl) (by kernel_rfl) (by kernel_rfl)) ?_
  intro W base args ds gs before hval0 hW hcnd _
  have hval : ∀ (j : Nat) t v, Try.f3.params[j]? = some t → args[j]? = some v → Value.okWide Try.prog W .any base t v := hval0
  have hW' := hW
  obtain ⟨p, q, hA0, hV, rfl, hfz, hnd⟩ := hW
  have hA : DataW.TrodAll enc Try.prog W 0 (fun _ => true) true Try.f3.params.toList args.toList ds p := hA0
  rw [Try.params3] at hA hval
  obtain ⟨v0, vs0, d0, ds0, p0, q0, hargs, rfl, rfl, h0, r0⟩ := trodAll_cons hA
  obtain ⟨v1, vs1, d1, ds1, p1, q1, rfl, rfl, rfl, h1, r1⟩ := trodAll_cons r0
  obtain ⟨rfl, rfl, rfl⟩ := trodAll_nil r1
  obtain rfl : args = #[v0, v1] := by cases args; simp_all
  obtain ⟨rfl, rfl⟩ := trodVars_none hV
  obtain ⟨a0, rfl, rfl, rfl, w0⟩ := open_int Try.underlying5 (hval 0 5 v0 rfl rfl) h0
  obtain ⟨a1, rfl, rfl, rfl, w1⟩ := open_int Try.underlying3 (hval 1 3 v1 rfl rfl) h1
  clear hA0 hval0
  simp only [List.append_nil] at hW'
  refine (walk a0 a1 w0 w1 W).mono fun e W' ⟨he, hg⟩ => ?_
  subst he
  exact ⟨_, rfl, post_of_same (pa := []) (pv := []) hW' (fun _ _ _ => (trodAll_cons_mk (shut_bool Try.underlying4 _) trodAll_mk0)) (fun sp _ => (trodAll_cons_mk (shut_int Try.underlying5 w0) (trodAll_cons_mk (shut_int Try.underlying3 w1) trodAll_mk0))) (fun _ _ => rfl) rfl
    (hg.frame _) hg.2.1 (ok_one (by kernel_rfl) rfl (okWide_bool_mk Try.underlying4 _))⟩

theorem over : Rows.fnLeavesNestedLoopsRow.holds Try.pinned (OpenSpec.ofChange Rows.fnLeavesNestedLoopsSpec) :=
  OpenClaim.holds_of_wide 3 Try.f3 rfl rfl rfl rfl rfl rfl rfl ⟨rfl, rfl, rfl, rfl, rfl⟩ rfl rfl rfl rfl rfl (by kernel_rfl) Try.func3 (by kernel_rfl)
    (of_decide_eq_true (by kernel_rfl)) (by unfold Func.isWrapper; first | (rw [if_pos (by decide +kernel)]; kernel_rfl) | (rw [if_neg (by decide +kernel)]; exact ⟨rfl, rfl⟩))
    (fun os started H enc _ => lifted os started H enc)

/-- ████ THE STATEMENT ████ -/
theorem proved : Rows.FnLeavesNestedLoopsSaid :=
  over
#print axioms proved
end Go.Proofs.Qxb6603627a.fnLeavesNestedLoops
