import Derived.Test.Qxb6603476aWrite
import Derived.Lib.EndianBits
namespace Go.Proofs.Qxb6603476a
open Go.RowKit Go.Deep
set_option linter.unusedVariables false

theorem or_null : bits .or .u32 (bits .or .u32 (bits .or .u32 4278190080 16711680) 65280) 255 = 4294967295 := by decide +kernel
theorem wrap_null : wrap32 4294967295 = -1 := by simp [wrap32]

theorem or_some (b0 b1 b2 b3 m : Int) (h0 : 0 ≤ b0 ∧ b0 < 128) (h1 : 0 ≤ b1 ∧ b1 < 256) (h2 : 0 ≤ b2 ∧ b2 < 256) (h3 : 0 ≤ b3 ∧ b3 < 256) (hm : b0 * 16777216 + b1 * 65536 + b2 * 256 + b3 = m) :
    wrap32 (bits .or .u32 (bits .or .u32 (bits .or .u32 (b0 * 16777216) (b1 * 65536)) (b2 * 256)) b3) = m := by
  have e1 : bits .or .u32 (b0 * 16777216) (b1 * 65536) = b0 * 16777216 + b1 * 65536 :=
    bits_join .u32 32 (by decide) wraps_u32 24 _ _ (by omega) (by omega) (by omega) (by omega) (by omega) (by omega)
  have e2 : bits .or .u32 (b0 * 16777216 + b1 * 65536) (b2 * 256) = b0 * 16777216 + b1 * 65536 + b2 * 256 :=
    bits_join .u32 32 (by decide) wraps_u32 16 _ _ (by omega) (by omega) (by omega) (by omega) (by omega) (by omega)
  have e3 : bits .or .u32 (b0 * 16777216 + b1 * 65536 + b2 * 256) b3 = b0 * 16777216 + b1 * 65536 + b2 * 256 + b3 :=
    bits_join .u32 32 (by decide) wraps_u32 8 _ _ (by omega) (by omega) (by omega) (by omega) (by omega) (by omega)
  rw [e1, e2, e3, hm]
  unfold wrap32
  omega

set_option maxHeartbeats 1000000 in
theorem field_null (g N c k : Nat) (ki : Int) (hki : ki = k) (w : World) (hN : N ≤ 16777216) (hk : k + 4 ≤ N)
    (c0 : w.cell? ⟨g, k, none⟩ = some (.int .u8 255)) (c1 : w.cell? ⟨g, k + 1, none⟩ = some (.int .u8 255)) (c2 : w.cell? ⟨g, k + 2, none⟩ = some (.int .u8 255)) (c3 : w.cell? ⟨g, k + 3, none⟩ = some (.int .u8 255)) :
    Calls Try.prog 8 #[.slice (some ⟨g, 0, none⟩) N c, .int .i64 ki] w fun e w' => e = .returned (.tuple #[.int .i64 ((k : Int) + 4), .int .i64 0, .bool true, .int .i64 ((k : Int) + 4), .bool true]) ∧ ∃ n, w' = w.drewN n := by
  subst hki
  have k0 : (k : Int) < N := by omega
  have k1 : (k : Int) + 1 < N := by omega
  have k2 : (k : Int) + 2 < N := by omega
  have k3 : (k : Int) + 3 < N := by omega
  have k4 : ¬ (N : Int) - k < 4 := by omega
  have o1 := or_null
  have o2 := wrap_null
  go_enter Try.func8, Try.ntmps8
  go_wp2
  go_quiet (fail)
  go_wp2
  refine bodyPost_ret (v := .tuple #[.int .i64 ((k : Int) + 4), .int .i64 0, .bool true, .int .i64 ((k : Int) + 4), .bool true]) (by simp [results, Try.results8, go_sem]) rfl ⟨rfl, _, rfl⟩

set_option maxHeartbeats 1000000 in
theorem field_some (g N c k m : Nat) (ki : Int) (hki : ki = k) (b0 b1 b2 b3 : Int) (w : World) (hN : N ≤ 16777216) (hk : k + 4 + m ≤ N) (h0 : 0 ≤ b0 ∧ b0 < 128) (h1 : 0 ≤ b1 ∧ b1 < 256) (h2 : 0 ≤ b2 ∧ b2 < 256) (h3 : 0 ≤ b3 ∧ b3 < 256)
    (hm : b0 * 16777216 + b1 * 65536 + b2 * 256 + b3 = m)
    (c0 : w.cell? ⟨g, k, none⟩ = some (.int .u8 b0)) (c1 : w.cell? ⟨g, k + 1, none⟩ = some (.int .u8 b1)) (c2 : w.cell? ⟨g, k + 2, none⟩ = some (.int .u8 b2)) (c3 : w.cell? ⟨g, k + 3, none⟩ = some (.int .u8 b3)) :
    Calls Try.prog 8 #[.slice (some ⟨g, 0, none⟩) N c, .int .i64 ki] w fun e w' => e = .returned (.tuple #[.int .i64 ((k : Int) + 4), .int .i64 m, .bool false, .int .i64 ((k : Int) + 4 + m), .bool true]) ∧ ∃ n, w' = w.drewN n := by
  subst hki
  have k0 : (k : Int) < N := by omega
  have k1 : (k : Int) + 1 < N := by omega
  have k2 : (k : Int) + 2 < N := by omega
  have k3 : (k : Int) + 3 < N := by omega
  have k4 : ¬ (N : Int) - k < 4 := by omega
  have k5 : ¬ (N : Int) - k - 4 < m := by omega
  have HM : Hid (b0 * 16777216 + b1 * 65536 + b2 * 256 + b3 = m) := hm
  clear hm
  obtain ⟨h00, h01⟩ := h0
  obtain ⟨h10, h11⟩ := h1
  obtain ⟨h20, h21⟩ := h2
  obtain ⟨h30, h31⟩ := h3
  go_enter Try.func8, Try.ntmps8
  go_wp2
  go_quiet (fail)
  rw [or_some b0 b1 b2 b3 m ⟨h00, h01⟩ ⟨h10, h11⟩ ⟨h20, h21⟩ ⟨h30, h31⟩ HM.out]
  go_wp2
  refine bodyPost_ret (v := .tuple #[.int .i64 ((k : Int) + 4), .int .i64 m, .bool false, .int .i64 ((k : Int) + 4 + m), .bool true]) (by simp [results, Try.results8, go_sem]) rfl ⟨rfl, _, rfl⟩

theorem is_null (out : Value) (s m : Int) (w : World) : Calls Try.prog 9 #[out, .int .i64 s, .int .i64 m, .bool true, .slice none 0 0] w fun e w' => e = .returned (.bool true) ∧ w' = w := by
  have hq := fun wx => Lib.run_eql_slice_nil (P := Try.prog) wx 22 5 none 0 0 0 0 Try.underlying22
  go_enter Try.func9, Try.ntmps9
  go_wp2
  go_ret
  exact ⟨rfl, rfl⟩

set_option maxHeartbeats 1000000 in
theorem is_row (g N c s m gb : Nat) (si : Int) (hs : si = s) (z : Nat → Int) (w : World) (hN : N ≤ 16777216) (hsm : s + m ≤ N)
    (hc1 : ∀ i, i < m → w.cell? ⟨g, s + i, none⟩ = some (.int .u8 (z i))) (hc2 : ∀ i, i < m → w.cell? ⟨gb, i, none⟩ = some (.int .u8 (z i))) :
    Calls Try.prog 9 #[.slice (some ⟨g, 0, none⟩) N c, .int .i64 si, .int .i64 m, .bool false, .slice (some ⟨gb, 0, none⟩) m m] w fun e w' => e = .returned (.bool true) ∧ ∃ n, w' = w.drewN n := by
  subst hs
  have hq := fun wx => Lib.run_eql_slice_nil (P := Try.prog) wx 22 5 (some ⟨gb, 0, none⟩) m m 0 0 Try.underlying22
  have hne : ((m : Int) != (m : Int)) = false := by simp
  have H1 : Hid (∀ i, i < m → w.cell? ⟨g, s + i, none⟩ = some (.int .u8 (z i))) := hc1
  have H2 : Hid (∀ i, i < m → w.cell? ⟨gb, i, none⟩ = some (.int .u8 (z i))) := hc2
  clear hc1 hc2
  go_enter Try.func9, Try.ntmps9
  go_wp2
  go_loopw [11] (fun i wr => ∃ k nn : Nat, k ≤ m ∧ i = .int .i64 k ∧ wr = w.drewN nn) (fun i _ => m - (intOf i).toNat)
  case atStart => exact ⟨0, 0, Nat.zero_le _, rfl, rfl⟩
  case round =>
    obtain ⟨k, nn, hk, rfl, rfl⟩ := hrel
    by_cases hlt : k < m
    · have d1 := H1.out k hlt
      have d2 := H2.out k hlt
      generalize z k = v at d1 d2
      have b1 : (k : Int) < (m : Int) := by omega
      have b2 : (s : Int) + (k : Int) < (N : Int) := by omega
      have hv : (v != v) = false := by simp
      go_wp2
      go_quiet (fail)
      go_wp2
      go_roundw
      case rel => exact ⟨k + 1, _, by omega, by go_num, rfl⟩
      case measure => simp [intOf]; omega
    · go_wp2
      go_ret
      exact ⟨rfl, _, rfl⟩

/-- The cells of a row that is owned. -/
theorem out_cells {w : World} {B g N c : Nat} {xs : List Value} (h : w.ownsRow B 5 1 (.slice (some ⟨g, 0, none⟩) N c) N xs) : ∀ j u, xs[j]? = some u → w.cell? ⟨g, j, none⟩ = some u := by
  intro j u hu
  have := h.cells (g := g) rfl j u hu
  rwa [Addr.add_lit, Nat.zero_add] at this

theorem get_hdr (pre post : List Value) (h : Int) (i : Nat) (b : Int) (hb : (be4 h)[i]? = some b) : (pre ++ (vals (be4 h) ++ post))[pre.length + i]? = some (.int .u8 b) := by
  have hi : i < 4 := by have := (List.getElem?_eq_some_iff.1 hb).1; simpa [be4] using this
  rw [List.getElem?_append_right (by omega), Nat.add_sub_cancel_left, List.getElem?_append_left (by simp [vals, be4]; omega)]
  simp only [vals, List.getElem?_map, hb, Option.map_some]

theorem get_body (pre post : List Value) (h : Int) (z : Nat → Int) (m i : Nat) (hi : i < m) : (pre ++ (vals (be4 h) ++ (vals (bytesOf z m) ++ post)))[pre.length + 4 + i]? = some (.int .u8 (z i)) := by
  rw [List.getElem?_append_right (by omega), List.getElem?_append_right (by simp [vals, be4]; omega)]
  have e2 : pre.length + 4 + i - pre.length - (vals (be4 h)).length = i := by simp [vals, be4]; omega
  rw [e2, List.getElem?_append_left (by simpa [vals, bytesOf] using hi)]
  simp [vals, bytesOf, hi]

/-- A field read back: what was written. -/
theorem field_any (g N c k m : Nat) (ki : Int) (hki : ki = k) (a : Option Addr) (z : Nat → Int) (pre post : List Value) (w : World) (hN : N ≤ 16777216) (hm : m ≤ 1048576) (hk : k + 4 + m ≤ N) (hpre : pre.length = k) (hnil : a = none → m = 0)
    (hc : ∀ j u, (pre ++ (vals (be4 (hdr a m)) ++ post))[j]? = some u → w.cell? ⟨g, j, none⟩ = some u) :
    Calls Try.prog 8 #[.slice (some ⟨g, 0, none⟩) N c, .int .i64 ki] w fun e w' => e = .returned (.tuple #[.int .i64 ((k : Int) + 4), .int .i64 m, .bool a.isNone, .int .i64 ((k : Int) + 4 + m), .bool true]) ∧ ∃ n, w' = w.drewN n := by
  subst hpre
  cases a with
  | none =>
    have h0 := hnil rfl
    subst h0
    have e4 : be4 (hdr none 0) = [255, 255, 255, 255] := by simp [hdr, be4]
    refine (field_null g N c pre.length ki hki w hN (by omega) (hc _ _ (get_hdr pre post _ 0 255 (by rw [e4]; rfl))) (hc _ _ (get_hdr pre post _ 1 255 (by rw [e4]; rfl))) (hc _ _ (get_hdr pre post _ 2 255 (by rw [e4]; rfl))) (hc _ _ (get_hdr pre post _ 3 255 (by rw [e4]; rfl)))).mono ?_
    rintro e w' ⟨rfl, hw⟩
    exact ⟨by simp, hw⟩
  | some x =>
    have e4 : be4 (hdr (some x) m) = [(m : Int) / 16777216, (m : Int) / 65536 % 256, (m : Int) / 256 % 256, (m : Int) % 256] := by simp [hdr, be4]
    refine (field_some g N c pre.length m ki hki ((m : Int) / 16777216) ((m : Int) / 65536 % 256) ((m : Int) / 256 % 256) ((m : Int) % 256) w hN hk (by omega) (by omega) (by omega) (by omega) (by omega)
      (hc _ _ (get_hdr pre post _ 0 _ (by rw [e4]; rfl))) (hc _ _ (get_hdr pre post _ 1 _ (by rw [e4]; rfl))) (hc _ _ (get_hdr pre post _ 2 _ (by rw [e4]; rfl))) (hc _ _ (get_hdr pre post _ 3 _ (by rw [e4]; rfl)))).mono ?_
    rintro e w' ⟨rfl, hw⟩
    exact ⟨rfl, hw⟩

/-- .. and it is the field. -/
theorem is_any (g N c s m B : Nat) (si : Int) (hs : si = s) (a : Option Addr) (z : Nat → Int) (w : World) (hN : N ≤ 16777216) (hsm : s + m ≤ N) (hS : Src w B a m z)
    (hc1 : ∀ i, i < m → w.cell? ⟨g, s + i, none⟩ = some (.int .u8 (z i))) :
    Calls Try.prog 9 #[.slice (some ⟨g, 0, none⟩) N c, .int .i64 si, .int .i64 m, .bool a.isNone, .slice a m m] w fun e w' => e = .returned (.bool true) ∧ ∃ n, w' = w.drewN n := by
  rcases hS with ⟨rfl, rfl⟩ | ⟨gb, rfl, hgb, hrow⟩
  · refine (is_null _ si ((0 : Nat) : Int) w).mono ?_
    rintro e w' ⟨rfl, rfl⟩
    exact ⟨rfl, 0, rfl⟩
  · exact is_row g N c s m gb si hs z w hN hsm hc1 (fun i hi => hrow.cell hi)

end Go.Proofs.Qxb6603476a
