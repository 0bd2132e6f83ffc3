/-
  The proof of Rows.FnWriterBytesTwoFieldsKeepTheirBoundsSaid: the frame is the shell of the seat, its one gap filled.
-/
import Derived.Test.Qxb6603476aRows
import Derived.Test.Qxb6603476aRead
import Derived.WalkKit
import Derived.ProofKit
import Derived.OpenShut
import Derived.ShutString
import Derived.ChangeOld
import Derived.Below
namespace Go.Proofs.Qxb6603476a.fnWriterBytesTwoFieldsKeepTheirBounds
open Go.ChangeShapes Go.WideShapes Go.ChangeAt Go.RowKit
open Go.ChangeMaps (open_string shut_string)
set_option linter.unusedVariables false

theorem own : ownKnob Try.prog.godebug = none := by kernel_rfl
theorem laidOut : laidOutB Try.prog = true := by kernel_rfl

/-! ### THE WALK -/
theorem bytes_no (a0 a1 : Option Addr) (l0 c0 l1 c1 : Nat) (w : World) (h0 : l0 ≤ maxLen) (h1 : l1 ≤ maxLen) (h : 1048576 < l0 + l1) :
    Calls Try.prog 10 #[.slice a0 l0 c0, .slice a1 l1 c1] w fun e w' => e = .returned (.bool false) ∧ w' = w := by
  unfold maxLen at h0 h1
  by_cases g0 : 1048576 < l0
  · go_enter Try.func10, Try.ntmps10
    go_wp2
    go_ret
    exact ⟨rfl, rfl⟩
  · by_cases g1 : 1048576 < l1
    · go_enter Try.func10, Try.ntmps10
      go_wp2
      go_ret
      exact ⟨rfl, rfl⟩
    · have g2 : (1048576 : Int) < (l0 : Int) + (l1 : Int) := by omega
      go_enter Try.func10, Try.ntmps10
      go_wp2
      go_ret
      exact ⟨rfl, rfl⟩

theorem bytes_yes (a0 a1 : Option Addr) (l0 c0 l1 c1 : Nat) (w : World) (h : l0 + l1 ≤ 1048576) :
    Calls Try.prog 10 #[.slice a0 l0 c0, .slice a1 l1 c1] w fun e w' => e = .returned (.bool true) ∧ w' = w := by
  have g0 : l0 ≤ 1048576 := by omega
  have g1 : l1 ≤ 1048576 := by omega
  have g2 : (l0 : Int) + (l1 : Int) ≤ 1048576 := by omega
  go_enter Try.func10, Try.ntmps10
  go_wp2
  go_ret
  exact ⟨rfl, rfl⟩

theorem get_one (z1 z2 : Nat → Int) (l1 l2 i : Nat) (h k : Int) (hi : i < l1) : (vals (be4 h) ++ (vals (bytesOf z1 l1) ++ (vals (be4 k) ++ vals (bytesOf z2 l2))))[4 + i]? = some (.int .u8 (z1 i)) := by
  have := get_body [] (vals (be4 k) ++ vals (bytesOf z2 l2)) h z1 l1 i hi
  simpa using this

theorem get_two (z1 z2 : Nat → Int) (l1 l2 i : Nat) (h k : Int) (hi : i < l2) : (vals (be4 h) ++ (vals (bytesOf z1 l1) ++ (vals (be4 k) ++ vals (bytesOf z2 l2))))[4 + l1 + 4 + i]? = some (.int .u8 (z2 i)) := by
  have e : (vals (be4 h) ++ vals (bytesOf z1 l1)).length = 4 + l1 := by simp [vals, bytesOf, be4]; omega
  have := get_body (vals (be4 h) ++ vals (bytesOf z1 l1)) [] k z2 l2 i hi
  rw [e, List.append_nil, List.append_assoc] at this
  exact this

set_option maxHeartbeats 2000000 in
theorem walk_in (a0 a1 : Option Addr) (l0 c0 l1 c1 : Nat) (z0 z1 : Nat → Int) (w : World) (H0 : Hid (Reads w a0 l0 c0 z0)) (H1 : Hid (Reads w a1 l1 c1 z1)) (hlen : l0 + l1 ≤ 1048576) (h0 : l0 ≤ 524288) (h1 : l1 ≤ 524288) :
    Calls Try.prog 4 #[.slice a0 l0 c0, .slice a1 l1 c1] w fun e w' => e = .returned (.bool true) ∧ Below w.heap.size w w' := by
  go_enter Try.func4, Try.ntmps4
  go_wp2_with fail
  refine (bytes_yes a0 a1 l0 c0 l1 c1 _ hlen).mono ?_
  rintro e w' ⟨rfl, hw'⟩
  subst hw'
  go_wp2_with fail
  refine (clone_any a0 l0 c0 z0 _ H0.out (by omega)).mono ?_
  rintro e w1 ⟨d0, rfl, hB1, hS0, _⟩
  go_wp2_with fail
  refine (clone_any a1 l1 c1 z1 _ (H1.out.later hB1) (by omega)).mono ?_
  rintro e w2 ⟨d1, rfl, hB2, hS1, _⟩
  have hT0 := hS0.grow hB2
  go_wp2_with fail
  refine (zzwrite w2.heap.size 0 l0 d0 none 0 0 z0 [] _ (World.ownsRow_nil _ _ _ _) (Nat.le_refl _) (by omega) (by omega) hT0).mono ?_
  rintro e w3 ⟨g3, c3, rfl, hown3, hB3⟩
  have hU0 := hT0.later hB3
  have hU1 := hS1.later hB3
  rw [Nat.zero_add, List.nil_append] at hown3
  go_wp2_with fail
  refine (zzwrite w2.heap.size (4 + l0) l1 d1 (some ⟨g3, 0, none⟩) (4 + l0) c3 z1 _ _ hown3 hB3.size (by omega) (by omega) hU1).mono ?_
  rintro e w4 ⟨g, c, rfl, hown4, hB4⟩
  have hV0 := hU0.later hB4
  have hV1 := hU1.later hB4
  have HD : Hid (∀ j u, ((vals (be4 (hdr d0 l0)) ++ vals (bytesOf z0 l0)) ++ (vals (be4 (hdr d1 l1)) ++ vals (bytesOf z1 l1)))[j]? = some u → w4.cell? ⟨g, j, none⟩ = some u) := out_cells hown4
  have HC : Hid (∀ j u, (vals (be4 (hdr d0 l0)) ++ (vals (bytesOf z0 l0) ++ (vals (be4 (hdr d1 l1)) ++ vals (bytesOf z1 l1))))[j]? = some u → w4.cell? ⟨g, j, none⟩ = some u) := by
    have := HD.out
    rw [List.append_assoc] at this
    exact this
  have hB : Below w'.heap.size w' w4 := hB1.trans ((hB2.mono hB1.size).trans ((hB3.mono (Nat.le_trans hB1.size hB2.size)).trans (hB4.mono (Nat.le_trans hB1.size hB2.size))))
  clear hown3 hown4 hU0 hU1 hT0 hS0 hS1 hB1 hB2 hB3 hB4 H0 H1
  go_wp2_with fail
  refine (field_any g (4 + l0 + 4 + l1) c 0 l0 _ rfl d0 z0 [] (vals (bytesOf z0 l0) ++ (vals (be4 (hdr d1 l1)) ++ vals (bytesOf z1 l1))) _ (by omega) (by omega) (by omega) rfl hV0.nil (by exact HC.out)).mono ?_
  rintro e w5 ⟨rfl, n5, hw5⟩
  subst hw5
  go_wp2_with fail
  refine (is_any g (4 + l0 + 4 + l1) c 4 l0 w2.heap.size _ (by omega) d0 z0 _ (by omega) (by omega) (by exact hV0) (fun i hi => by exact HC.out _ _ (get_one z0 z1 l0 l1 i _ _ hi))).mono ?_
  rintro e w6 ⟨rfl, n6, hw6⟩
  subst hw6
  go_wp2_with fail
  refine (field_any g (4 + l0 + 4 + l1) c (4 + l0) l1 _ (by omega) d1 z1 (vals (be4 (hdr d0 l0)) ++ vals (bytesOf z0 l0)) (vals (bytesOf z1 l1)) _ (by omega) (by omega) (by omega) (by simp [vals, bytesOf, be4]; omega) hV1.nil (by exact HD.out)).mono ?_
  rintro e w7 ⟨rfl, n7, hw7⟩
  subst hw7
  go_wp2_with fail
  refine (is_any g (4 + l0 + 4 + l1) c (4 + l0 + 4) l1 w2.heap.size _ (by omega) d1 z1 _ (by omega) (by omega) (by exact hV1) (fun i hi => by exact HC.out _ _ (get_two z0 z1 l0 l1 i _ _ hi))).mono ?_
  rintro e w8 ⟨rfl, n8, hw8⟩
  subst hw8
  go_wp2
  go_ret
  exact ⟨rfl, belowN hB _⟩

set_option maxHeartbeats 400000 in
theorem walk (a0 : Option Addr) (len0 cap0 : Nat) (z0 : List Int) (a1 : Option Addr) (len1 cap1 : Nat) (z1 : List Int) (w : World) (w0 : IsRow .u8 w a0 len0 cap0 z0) (w1 : IsRow .u8 w a1 len1 cap1 z1) :
    Calls Try.prog 4 #[.slice a0 len0 cap0, .slice a1 len1 cap1] w fun e w' => e = .returned (.bool true) ∧ Below w.heap.size w w' := by
  have hm0 : len0 ≤ maxLen := by
    rcases w0 with ⟨_, rfl, _, _⟩ | ⟨_, _, h1, h2, _⟩
    · exact Nat.zero_le _
    · exact Nat.le_trans h1 h2
  have hm1 : len1 ≤ maxLen := by
    rcases w1 with ⟨_, rfl, _, _⟩ | ⟨_, _, h1, h2, _⟩
    · exact Nat.zero_le _
    · exact Nat.le_trans h1 h2
  by_cases hbig : 1048576 < len0 + len1
  · clear w0 w1
    go_enter Try.func4, Try.ntmps4
    go_wp2_with fail
    refine (bytes_no a0 a1 len0 cap0 len1 cap1 _ hm0 hm1 hbig).mono ?_
    rintro e w' ⟨rfl, rfl⟩
    go_wp2
    go_ret
    exact ⟨rfl, Below.refl _ _⟩
  have hlen : len0 + len1 ≤ 1048576 := by omega
  clear hbig hm0 hm1
  by_cases hb0 : 524288 < len0
  · clear w0 w1
    go_enter Try.func4, Try.ntmps4
    go_wp2_with fail
    refine (bytes_yes a0 a1 len0 cap0 len1 cap1 _ hlen).mono ?_
    rintro e w' ⟨rfl, rfl⟩
    go_wp2
    go_ret
    exact ⟨rfl, Below.refl _ _⟩
  by_cases hb1 : 524288 < len1
  · clear w0 w1
    go_enter Try.func4, Try.ntmps4
    go_wp2_with fail
    refine (bytes_yes a0 a1 len0 cap0 len1 cap1 _ hlen).mono ?_
    rintro e w' ⟨rfl, rfl⟩
    go_wp2
    go_ret
    exact ⟨rfl, Below.refl _ _⟩
  exact walk_in a0 a1 len0 cap0 len1 cap1 _ _ w (reads_row w0) (reads_row w1) hlen (by omega) (by omega)

/-! ### THE ROW's STEP: WRITTEN OUT: LEAVE IT -/
set_option maxRecDepth 100000 in
theorem lifted (os : Os) (started : os.Started) (H : Type) (enc : TypeId × Value → H) :
    ReturnsInHanded {} Try.checked os 4 .any (Rows.fnWriterBytesTwoFieldsKeepTheirBoundsSpec.pre6 enc Try.prog Try.f4 Rows.fnWriterBytesTwoFieldsKeepTheirBoundsRow.domain false) (Rows.fnWriterBytesTwoFieldsKeepTheirBoundsSpec.post enc Try.prog Try.f4 false true false false) := by
  refine returnsInHanded_of_change (C := Try.checked) own started (by kernel_rfl) Try.func4
    (ChangeSpec.witness6 (enc := enc) (C := Try.checked) false ⟨#[], #[.slice none 0 0, .slice none 0 0], []⟩ 8 (by kernel_rfl) (by kernel_rfl) (by kernel_rfl) (by kernel_rfl)) ?_
  intro W base args ds gs before hval0 hW hcnd _
  have hval : ∀ (j : Nat) t v, Try.f4.params[j]? = some t → args[j]? = some v → Value.okWide Try.prog W .any base t v := hval0
  have hW' := hW
  obtain ⟨p, q, hA0, hV, rfl, hfz, hnd⟩ := hW
  have hA : DataW.TrodAll enc Try.prog W 0 (fun _ => true) true Try.f4.params.toList args.toList ds p := hA0
  rw [Try.params4] at hA hval
  obtain ⟨v0, vs0, d0, ds0, p0, q0, hargs, rfl, rfl, h0, r0⟩ := trodAll_cons hA
  obtain ⟨v1, vs1, d1, ds1, p1, q1, rfl, rfl, rfl, h1, r1⟩ := trodAll_cons r0
  obtain ⟨rfl, rfl, rfl⟩ := trodAll_nil r1
  obtain rfl : args = #[v0, v1] := by cases args; simp_all
  obtain ⟨rfl, rfl⟩ := trodVars_none hV
  obtain ⟨a0, len0, cap0, rfl⟩ := okWide_slice Try.underlying22 (hval 0 22 v0 rfl rfl)
  have k0 := h0
  have lt0 : ∀ x ∈ p0, x.block < W.heap.size := by obtain ⟨m, hm⟩ := k0; exact DataW.trod_lt m _ _ _ hm
  obtain ⟨z0, w0⟩ : ∃ zs, IsRow .u8 W a0 len0 cap0 zs := by
    obtain ⟨fuel, hf⟩ := h0
    rcases open_ints Try.underlying22 Try.underlying5 (by kernel_rfl) hf with ⟨hcs, _⟩ | ⟨x, l, c, zs, hcs, _, hl, hm, hz, _, hcell, hwz⟩
    · simp [Value.cells] at hcs
      obtain ⟨rfl, rfl, rfl⟩ := hcs
      exact ⟨[], .inl ⟨rfl, rfl, rfl, rfl⟩⟩
    · simp [Value.cells] at hcs
      obtain ⟨rfl, rfl, rfl⟩ := hcs
      exact ⟨zs, .inr ⟨_, rfl, hl, hm, by simpa using hz, hcell, hwz⟩⟩
  obtain ⟨a1, len1, cap1, rfl⟩ := okWide_slice Try.underlying22 (hval 1 22 v1 rfl rfl)
  have k1 := h1
  have lt1 : ∀ x ∈ p1, x.block < W.heap.size := by obtain ⟨m, hm⟩ := k1; exact DataW.trod_lt m _ _ _ hm
  obtain ⟨z1, w1⟩ : ∃ zs, IsRow .u8 W a1 len1 cap1 zs := by
    obtain ⟨fuel, hf⟩ := h1
    rcases open_ints Try.underlying22 Try.underlying5 (by kernel_rfl) hf with ⟨hcs, _⟩ | ⟨x, l, c, zs, hcs, _, hl, hm, hz, _, hcell, hwz⟩
    · simp [Value.cells] at hcs
      obtain ⟨rfl, rfl, rfl⟩ := hcs
      exact ⟨[], .inl ⟨rfl, rfl, rfl, rfl⟩⟩
    · simp [Value.cells] at hcs
      obtain ⟨rfl, rfl, rfl⟩ := hcs
      exact ⟨zs, .inr ⟨_, rfl, hl, hm, by simpa using hz, hcell, hwz⟩⟩
  clear hA0 hval0
  refine (walk a0 len0 cap0 z0 a1 len1 cap1 z1 W w0 w1).mono fun e W' ⟨he, bel⟩ => ?_
  subst he
  exact ⟨_, rfl, _, _, _, [], _, [], hW', trodAll_mk1 (shut_bool Try.underlying4 _), (trodAll_cons_mk (Below.trod laidOut (by kernel_rfl) (of_decide_eq_true (by kernel_rfl)) k0 bel lt0) (trodAll_cons_mk (Below.trod laidOut (by kernel_rfl) (of_decide_eq_true (by kernel_rfl)) k1 bel lt1) trodAll_mk0)), rfl, bel.frame _, fun h => by cases h⟩

theorem over : Rows.fnWriterBytesTwoFieldsKeepTheirBoundsRow.holds Try.pinned (OpenSpec.ofChange Rows.fnWriterBytesTwoFieldsKeepTheirBoundsSpec) :=
  OpenClaim.holds_of_wide 4 Try.f4 rfl rfl rfl rfl rfl rfl rfl ⟨rfl, rfl, rfl, rfl, rfl⟩ rfl rfl rfl rfl rfl (by kernel_rfl) Try.func4 (by kernel_rfl)
    (of_decide_eq_true (by kernel_rfl)) (by unfold Func.isWrapper; first | (rw [if_pos (by decide +kernel)]; kernel_rfl) | (rw [if_neg (by decide +kernel)]; exact ⟨rfl, rfl⟩))
    (fun os started H enc _ => lifted os started H enc)

/-- ████ THE STATEMENT ████ -/
theorem proved : Rows.FnWriterBytesTwoFieldsKeepTheirBoundsSaid := over
#print axioms proved
end Go.Proofs.Qxb6603476a.fnWriterBytesTwoFieldsKeepTheirBounds
