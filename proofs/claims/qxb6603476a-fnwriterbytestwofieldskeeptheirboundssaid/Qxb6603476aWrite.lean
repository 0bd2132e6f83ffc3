import Derived.Test.Qxb6603476aCopy
import Derived.Deep.RegionWith
namespace Go.Proofs.Qxb6603476a
open Go.RowKit Go.Deep
set_option linter.unusedVariables false

/-- A list of bytes, as cells. -/
def vals (l : List Int) : List Value := l.map (Value.int .u8)

/-- The four bytes of a number below 2^32, the greatest first. -/
def be4 (v : Int) : List Int := [v / 16777216, v / 65536 % 256, v / 256 % 256, v % 256]

theorem grownBy_trans {a b c : World} {row : Option Nat} (h : a.grownBy b row) (k : b.grownBy c row) : a.grownBy c row :=
  ⟨k.os.trans h.os, k.tape.trans h.tape, k.output.trans h.output, Nat.le_trans h.size k.size, fun i hi hne => (k.block i (Nat.lt_of_lt_of_le hi h.size) hne).trans (h.block i hi hne)⟩

/-- What is owned and is not empty lies at the head of a row. -/
theorem owns_shape {w : World} {B n : Nat} {v : Value} {xs : List Value} (h : w.ownsRow B 5 1 v n xs) (hn : 0 < n) : ∃ g c, v = .slice (some ⟨g, 0, none⟩) n c := by
  rcases h.2 with ⟨_, h0⟩ | ⟨g, c, _, hv, _⟩
  · omega
  · exact ⟨g, c, hv⟩

set_option maxHeartbeats 1000000 in
theorem app32 (B n : Nat) (v : Int) (h0 : 0 ≤ v) (h1 : v < 4294967296) (sv : Value) (xs : List Value) (w : World) (hown : w.ownsRow B 5 1 sv n xs) (hBw : B ≤ w.heap.size) (hlim : n ≤ 16777216) :
    Calls Try.prog 13 #[.agg #[], sv, .int .u32 v] w fun e w' => ∃ g c, e = .returned (.slice (some ⟨g, 0, none⟩) (n + 4) c) ∧ w'.ownsRow B 5 1 (.slice (some ⟨g, 0, none⟩) (n + 4) c) (n + 4) (xs ++ vals (be4 v)) ∧ w.grownBy w' sv.ownBlock := by
  obtain ⟨i0, hi, hz0, hz1, hz2⟩ := info_parts Try.info5
  go_enter Try.func13, Try.ntmps13
  go_wp2_with (at_builtin; refine wpList_append_own _ rfl _ _ 22 rfl B 5 i0 (.int .u8 0) 1 1 Try.underlying22 hi hz0 hz1 hz2 rfl (by decide) _ _ _ rfl ((hown.alloc _).alloc _) _ 4 4 (vals (be4 v)) rfl rfl ?c1 ?c2 ?c3 ?c4 ?c5 ?_)
  case c1 =>
    intro j u hj
    match j, hj with
    | 0, hj => simp [vals, be4] at hj; subst hj; simp [Addr.add]
    | 1, hj => simp [vals, be4] at hj; subst hj; simp [Addr.add]
    | 2, hj => simp [vals, be4] at hj; subst hj; simp [Addr.add]
    | 3, hj => simp [vals, be4] at hj; subst hj; simp [Addr.add]
  case c2 => exact ints_oneCell _ _
  case c3 => unfold maxLen; omega
  case c4 => omega
  case c5 => simp; omega
  intro v' w2 hown' hgrow _
  obtain ⟨g, c, hv⟩ := owns_shape hown' (by omega)
  rw [hv] at hown' ⊢
  clear hv
  go_wp2
  go_ret
  exact ⟨g, c, rfl, hown', grownBy_trans (grownBy_trans (World.grownBy_alloc _ _ _) (World.grownBy_alloc _ _ _)) hgrow⟩

/-- A writer: its one field. -/
def Writer (w : World) (b : Nat) (v : Value) : Prop := w.heap[b]? = some (.cells #[v] 31 (0, 0))

theorem Writer.cell {w : World} {b : Nat} {v : Value} (h : Writer w b v) : w.cell? ⟨b, 0, none⟩ = some v := by unfold Writer at h; simp [World.cell?, h]
theorem Writer.frozen {w : World} {b : Nat} {v : Value} (h : Writer w b v) : w.frozen? ⟨b, 0, none⟩ = false := by unfold Writer at h; simp [World.frozen?, h]
theorem Writer.set {w : World} {b : Nat} {v : Value} (h : Writer w b v) (v' : Value) : Writer (w.setCell ⟨b, 0, none⟩ v') b v' := by
  unfold Writer at h ⊢; simp [World.setCell, Array.getElem?_modify, h]
theorem Writer.lt {w : World} {b : Nat} {v : Value} (h : Writer w b v) : b < w.heap.size := (Array.getElem?_eq_some_iff.1 h).1
/-- A writer's block is no row of bytes. -/
theorem Writer.apart {w : World} {b B n : Nat} {v sv : Value} {xs : List Value} (h : Writer w b v) (hown : w.ownsRow B 5 1 sv n xs) : some b ≠ sv.ownBlock := by
  rcases hown.2 with ⟨rfl, _⟩ | ⟨g, c, cur, rfl, _, hg, _⟩
  · simp [Value.ownBlock]
  · intro e
    simp [Value.ownBlock] at e
    subst e
    unfold Writer at h
    rw [h] at hg
    simp at hg
theorem Writer.grown {w w' : World} {b B n : Nat} {v sv : Value} {xs : List Value} (h : Writer w b v) (hown : w.ownsRow B 5 1 sv n xs) (hg : w.grownBy w' sv.ownBlock) : Writer w' b v :=
  (hg.block b h.lt (h.apart hown)).trans h
/-- An owned row stays owned behind a store into a writer. -/
theorem Writer.keeps {w : World} {b B n : Nat} {v sv : Value} {xs : List Value} (h : Writer w b v) (hown : w.ownsRow B 5 1 sv n xs) (u : Value) : (w.setCell ⟨b, 0, none⟩ u).ownsRow B 5 1 sv n xs := by
  have ha := h.apart hown
  refine ⟨hown.1, ?_⟩
  rcases hown.2 with h1 | ⟨g, c, cur, rfl, hb, hg, hr⟩
  · exact .inl h1
  · refine .inr ⟨g, c, cur, rfl, hb, ?_, hr⟩
    rw [blk_setCell_other _ _ _ _ (by intro e; simp [Value.ownBlock] at ha; exact ha e.symm)]
    exact hg

set_option maxHeartbeats 1000000 in
theorem int_any (b B n : Nat) (x v : Int) (hv : IntKind.u32.wrap x = v) (h0 : 0 ≤ v) (h1 : v < 4294967296) (sv : Value) (xs : List Value) (w : World) (hW : Writer w b sv) (hown : w.ownsRow B 5 1 sv n xs) (hBb : B ≤ b) (hlim : n ≤ 16777216) :
    Calls Try.prog 12 #[.pointer (some ⟨b, 0, none⟩), .int .i32 x] w fun e w' => e = .returned (.tuple #[]) ∧ ∃ g c, Writer w' b (.slice (some ⟨g, 0, none⟩) (n + 4) c) ∧ w'.ownsRow B 5 1 (.slice (some ⟨g, 0, none⟩) (n + 4) c) (n + 4) (xs ++ vals (be4 v)) ∧ Below B w w' := by
  have hc := hW.cell
  have hlt := hW.lt
  have HV : Hid (IntKind.u32.wrap x = v) := hv
  clear hv
  go_enter Try.func12, Try.ntmps12
  go_region_with (go_at_call 13; refine (app32 B n _ (by rw [HV.out]; exact h0) (by rw [HV.out]; exact h1) sv xs _ (by exact hown) (by show B ≤ w.heap.size; omega) hlim).mono ?_; rintro e w1 ⟨g, c, rfl, hown1, hg1⟩; have hW1 : Writer w1 b sv := Writer.grown (w := w.drew) hW hown hg1; have hc1 := hW1.cell; have hf1 := hW1.frozen)
  all_goals
    go_end0
    rw [HV.out] at hown1
    exact ⟨rfl, g, c, hW1.set _, hW1.keeps hown1 _, (((Below.refl B w).drew).grown hg1 (by show B ≤ w.heap.size; omega) (fun k hk => (hown.lt k hk).1)).setCell hBb _⟩

/-- What a writer is given: nil, or a row of the call's own below block B. -/
def Src (w : World) (B : Nat) (a : Option Addr) (m : Nat) (z : Nat → Int) : Prop :=
  (a = none ∧ m = 0) ∨ ∃ g, a = some ⟨g, 0, none⟩ ∧ g < B ∧ w.rowIs g 5 m (fun i => .int .u8 (z i))

/-- The number ahead of a field's bytes: -1 for nil, as its 32 bits say it. -/
def hdr (a : Option Addr) (m : Nat) : Int := if a = none then 4294967295 else (m : Int)

/-- The first m bytes of z. -/
def bytesOf (z : Nat → Int) (m : Nat) : List Int := (List.range m).map z

theorem wrap_neg : IntKind.u32.wrap (-1) = 4294967295 := by decide
theorem wrap_pos (m : Nat) (hm : m ≤ 1048576) : IntKind.u32.wrap (m : Int) = (m : Int) := by rw [IntKind.wrap_u32]; omega

theorem row_cells {w : World} {g m : Nat} {z : Nat → Int} (h : w.rowIs g 5 m (fun i => .int .u8 (z i))) : ∀ j u, (vals (bytesOf z m))[j]? = some u → w.cell? ((⟨g, 0, none⟩ : Addr).add j) = some u := by
  intro j u hu
  have hj : j < m := by
    have := (List.getElem?_eq_some_iff.1 hu).1
    simpa [vals, bytesOf] using this
  have e : (vals (bytesOf z m))[j]? = some (.int .u8 (z j)) := by simp [vals, bytesOf, hj]
  rw [e] at hu
  cases hu
  rw [Addr.add_lit, Nat.zero_add]
  exact h.cell hj

set_option maxHeartbeats 1000000 in
theorem bytes_nil (b B n : Nat) (sv : Value) (xs : List Value) (w : World) (hW : Writer w b sv) (hown : w.ownsRow B 5 1 sv n xs) (hBb : B ≤ b) (hlim : n ≤ 16777216) :
    Calls Try.prog 11 #[.pointer (some ⟨b, 0, none⟩), .slice none 0 0] w fun e w' => e = .returned (.tuple #[]) ∧ ∃ g c, Writer w' b (.slice (some ⟨g, 0, none⟩) (n + 4) c) ∧ w'.ownsRow B 5 1 (.slice (some ⟨g, 0, none⟩) (n + 4) c) (n + 4) (xs ++ vals (be4 4294967295)) ∧ Below B w w' := by
  have hq := fun wx => Lib.run_eql_slice_nil (P := Try.prog) wx 22 5 none 0 0 0 0 Try.underlying22
  go_enter Try.func11, Try.ntmps11
  go_wp2_with fail
  refine (int_any b B n (-1) 4294967295 wrap_neg (by omega) (by omega) sv xs _ hW hown hBb hlim).mono ?_
  rintro e w1 ⟨rfl, g, c, hW1, hown1, hB1⟩
  go_wp2
  refine bodyPost_ret (results_none rfl _ _ _) rfl ?_
  exact ⟨rfl, g, c, hW1, hown1, hB1⟩

set_option maxHeartbeats 1000000 in
theorem bytes_row (b B n m gb : Nat) (z : Nat → Int) (sv : Value) (xs : List Value) (w : World) (hW : Writer w b sv) (hown : w.ownsRow B 5 1 sv n xs) (hBb : B ≤ b) (hlim : n ≤ 8388608) (hm : m ≤ 1048576) (hgb : gb < B) (hrow : w.rowIs gb 5 m (fun i => .int .u8 (z i))) :
    Calls Try.prog 11 #[.pointer (some ⟨b, 0, none⟩), .slice (some ⟨gb, 0, none⟩) m m] w fun e w' => e = .returned (.tuple #[]) ∧ ∃ g c, Writer w' b (.slice (some ⟨g, 0, none⟩) (n + 4 + m) c) ∧ w'.ownsRow B 5 1 (.slice (some ⟨g, 0, none⟩) (n + 4 + m) c) (n + 4 + m) (xs ++ (vals (be4 m) ++ vals (bytesOf z m))) ∧ Below B w w' := by
  have hq := fun wx => Lib.run_eql_slice_nil (P := Try.prog) wx 22 5 (some ⟨gb, 0, none⟩) m m 0 0 Try.underlying22
  go_enter Try.func11, Try.ntmps11
  go_wp2_with fail
  refine (int_any b B n m m (wrap_pos m hm) (by omega) (by omega) sv xs _ hW hown hBb (by omega)).mono ?_
  rintro e w1 ⟨rfl, g, c, hW1, hown1, hB1⟩
  have hc1 := hW1.cell
  have hrow1 : w1.rowIs gb 5 m (fun i => .int .u8 (z i)) := hrow.of_block (hB1.block gb hgb)
  have hcs := row_cells hrow1
  have HC : Hid (∀ j u, (vals (bytesOf z m))[j]? = some u → w1.cell? ((⟨gb, 0, none⟩ : Addr).add j) = some u) := hcs
  clear hcs hrow1 hrow hown hW
  obtain ⟨i0, hi, hz0, hz1, hz2⟩ := info_parts Try.info5
  have hsz1 := hW1.lt
  go_wp2_with (at_builtin; refine wpList_append_own _ rfl _ _ 22 rfl B 5 i0 (.int .u8 0) 1 1 Try.underlying22 hi hz0 hz1 hz2 rfl (by decide) _ _ _ rfl hown1 ⟨gb, 0, none⟩ m m (vals (bytesOf z m)) rfl (by simp [vals, bytesOf]) HC.out (ints_oneCell _ _) (by unfold maxLen; omega) (by omega) (by omega) ?_)
  intro v' w2 hown2 hg2 _
  obtain ⟨g2, c2, hv⟩ := owns_shape hown2 (by omega)
  rw [hv] at hown2 ⊢
  clear hv
  have hW2 := hW1.grown hown1 hg2
  have hc2 := hW2.cell
  have hf2 := hW2.frozen
  go_wp2
  go_end0
  exact ⟨rfl, g2, c2, hW2.set _, hW2.keeps hown2 _, (hB1.grown hg2 (by omega) (fun k hk => (hown1.lt k hk).1)).setCell hBb _⟩

theorem writer_new (w : World) (v : Value) : Writer (w.alloc (.cells #[v] 31)) w.heap.size v := blk_alloc_new _ _

/-- What is owned stays owned behind a new writer. -/
theorem bytes_any (b B n m : Nat) (a : Option Addr) (z : Nat → Int) (sv : Value) (xs : List Value) (w : World) (hW : Writer w b sv) (hown : w.ownsRow B 5 1 sv n xs) (hBb : B ≤ b) (hlim : n ≤ 8388608) (hm : m ≤ 1048576) (hS : Src w B a m z) :
    Calls Try.prog 11 #[.pointer (some ⟨b, 0, none⟩), .slice a m m] w fun e w' => e = .returned (.tuple #[]) ∧ ∃ g c, Writer w' b (.slice (some ⟨g, 0, none⟩) (n + 4 + m) c) ∧ w'.ownsRow B 5 1 (.slice (some ⟨g, 0, none⟩) (n + 4 + m) c) (n + 4 + m) (xs ++ (vals (be4 (hdr a m)) ++ vals (bytesOf z m))) ∧ Below B w w' := by
  rcases hS with ⟨rfl, rfl⟩ | ⟨gb, rfl, hgb, hrow⟩
  · have e0 : vals (be4 (hdr none 0)) ++ vals (bytesOf z 0) = vals (be4 4294967295) := by simp [hdr, vals, bytesOf]
    rw [e0]
    exact bytes_nil b B n sv xs w hW hown hBb (by omega)
  · have e0 : hdr (some ⟨gb, 0, none⟩) m = (m : Int) := by simp [hdr]
    rw [e0]
    exact bytes_row b B n m gb z sv xs w hW hown hBb hlim hm hgb hrow

theorem Src.alloc {w : World} {B m : Nat} {a : Option Addr} {z : Nat → Int} (h : Src w B a m z) (o : Obj) : Src (w.alloc o) B a m z := by
  rcases h with h | ⟨g, h1, h2, h3⟩
  · exact .inl h
  · exact .inr ⟨g, h1, h2, h3.alloc o⟩

theorem Src.later {w w' : World} {B m : Nat} {a : Option Addr} {z : Nat → Int} (h : Src w B a m z) (hb : Below B w w') : Src w' B a m z := by
  rcases h with h | ⟨g, h1, h2, h3⟩
  · exact .inl h
  · exact .inr ⟨g, h1, h2, h3.of_block (hb.block g h2)⟩

set_option maxHeartbeats 1000000 in
theorem zzwrite (B n m : Nat) (a a0 : Option Addr) (n0 c0 : Nat) (z : Nat → Int) (xs : List Value) (w : World) (hown : w.ownsRow B 5 1 (.slice a0 n0 c0) n xs) (hB : B ≤ w.heap.size) (hlim : n ≤ 8388608) (hm : m ≤ 1048576) (hS : Src w B a m z) :
    Calls Try.prog 7 #[.slice a0 n0 c0, .slice a m m] w fun e w' => ∃ g c, e = .returned (.slice (some ⟨g, 0, none⟩) (n + 4 + m) c) ∧ w'.ownsRow B 5 1 (.slice (some ⟨g, 0, none⟩) (n + 4 + m) c) (n + 4 + m) (xs ++ (vals (be4 (hdr a m)) ++ vals (bytesOf z m))) ∧ Below B w w' := by
  go_enter Try.func7, Try.ntmps7
  go_wp2_with fail
  refine (bytes_any w.heap.size B n m a z _ xs _ (writer_new w _) (hown.alloc _) hB hlim hm (hS.alloc _)).mono ?_
  rintro e w1 ⟨rfl, g, c, hW1, hown1, hB1⟩
  have hc1 := hW1.cell
  go_wp2
  go_ret
  exact ⟨g, c, rfl, hown1, ((Below.refl _ _).alloc hB _).trans hB1⟩

/-- What a clone reads: nil; or nothing; or bytes that lie somewhere. -/
def Reads (w : World) (a : Option Addr) (len cap : Nat) (z : Nat → Int) : Prop :=
  (a = none ∧ len = 0 ∧ cap = 0) ∨ (∃ x, a = some x ∧ len = 0) ∨ ∃ b off, a = some ⟨b, off, none⟩ ∧ b < w.heap.size ∧ ∀ i, i < len → w.cell? ⟨b, off + i, none⟩ = some (.int .u8 (z i))

theorem reads_row {w : World} {a : Option Addr} {len cap : Nat} {zs : List Int} (hr : IsRow .u8 w a len cap zs) : Reads w a len cap (fun i => zs.getD i 0) := by
  rcases hr with ⟨rfl, rfl, rfl, rfl⟩ | ⟨x, rfl, hl, hm, hz, hcell, hwz⟩
  · exact .inl ⟨rfl, rfl, rfl⟩
  · by_cases h0 : len = 0
    · exact .inr (.inl ⟨x, rfl, h0⟩)
    · obtain ⟨b, off, rfl, hc⟩ := ints_at hcell (by omega)
      refine .inr (.inr ⟨b, off, rfl, ?_, fun i hi => hc i (by omega)⟩)
      have h := hc 0 (by omega)
      apply Decidable.byContradiction
      intro hn
      have : w.heap[b]? = none := by simpa using hn
      simp [World.cell?, this] at h

theorem reads_src {w : World} {B : Nat} {a : Option Addr} {len : Nat} {z : Nat → Int} (h : Src w B a len z) : Reads w a len len z := by
  rcases h with ⟨rfl, rfl⟩ | ⟨g, rfl, _, hrow⟩
  · exact .inl ⟨rfl, rfl, rfl⟩
  · exact .inr (.inr ⟨g, 0, rfl, hrow.lt, fun i hi => by rw [Nat.zero_add]; exact hrow.cell hi⟩)

theorem Copied.src {w w' : World} {n : Nat} {z : Nat → Int} (h : Copied w w' n n z) : Src w' w'.heap.size (some ⟨w.heap.size, 0, none⟩) n z :=
  .inr ⟨w.heap.size, rfl, by have := h.size; omega, h.row.congr (fun i hi => by rw [if_pos hi])⟩

theorem Copied.owns {w w' : World} {n : Nat} {z : Nat → Int} (h : Copied w w' n n z) (hn : n ≤ 1048576) : w'.ownsRow w.heap.size 5 1 (.slice (some ⟨w.heap.size, 0, none⟩) n n) n (vals (bytesOf z n)) := by
  obtain ⟨c, hb, hs, hc⟩ := h.row
  refine ⟨by simp [vals, bytesOf], .inr ⟨w.heap.size, n, c, rfl, Nat.le_refl _, hb, Nat.le_refl _, by unfold maxLen; omega, by omega, ?_⟩⟩
  apply List.ext_getElem?
  intro i
  by_cases hi : i < n
  · have h1 : c[i]? = some (if i < n then Value.int .u8 (z i) else Value.int .u8 0) := hc i hi
    rw [if_pos hi] at h1
    rw [List.getElem?_take_of_lt (by omega), Array.getElem?_toList, h1]
    simp [vals, bytesOf, hi]
  · rw [List.getElem?_eq_none (by simp [hs]; omega), List.getElem?_eq_none (by simp [vals, bytesOf]; omega)]

theorem clone_any (a : Option Addr) (len cap : Nat) (z : Nat → Int) (w : World) (hr : Reads w a len cap z) (hlen : len ≤ 1048576) :
    Calls Try.prog 6 #[.slice a len cap] w fun e w' => ∃ c, e = .returned (.slice c len len) ∧ Below w.heap.size w w' ∧ Src w' w'.heap.size c len z ∧ w'.ownsRow w.heap.size 5 1 (.slice c len len) len (vals (bytesOf z len)) := by
  rcases hr with ⟨rfl, rfl, rfl⟩ | ⟨x, rfl, rfl⟩ | ⟨b, off, rfl, hb, hc⟩
  · refine (copy_nil w).mono ?_
    rintro e w' ⟨rfl, rfl⟩
    exact ⟨none, rfl, Below.refl _ _, .inl ⟨rfl, rfl⟩, World.ownsRow_nil _ _ _ _⟩
  · refine (copy_zero x cap z w).mono ?_
    rintro e w' ⟨rfl, h⟩
    exact ⟨_, rfl, h.below, h.src, h.owns (by omega)⟩
  · refine (copy_row b off len cap z w hlen hb hc).mono ?_
    rintro e w' ⟨rfl, h⟩
    exact ⟨_, rfl, h.below, h.src, h.owns hlen⟩

theorem Src.grow {w w' : World} {m : Nat} {a : Option Addr} {z : Nat → Int} (h : Src w w.heap.size a m z) (hb : Below w.heap.size w w') : Src w' w'.heap.size a m z := by
  rcases h with h | ⟨g, h1, h2, h3⟩
  · exact .inl h
  · exact .inr ⟨g, h1, by have := hb.size; omega, h3.of_block (hb.block g h2)⟩

theorem Src.nil {w : World} {B m : Nat} {a : Option Addr} {z : Nat → Int} (h : Src w B a m z) : a = none → m = 0 := by
  rcases h with ⟨_, h⟩ | ⟨g, h1, _⟩
  · exact fun _ => h
  · rw [h1]; intro h; cases h

theorem Reads.later {w w' : World} {a : Option Addr} {len cap : Nat} {z : Nat → Int} (h : Reads w a len cap z) (hb : Below w.heap.size w w') : Reads w' a len cap z := by
  rcases h with h | h | ⟨b, off, h1, h2, h3⟩
  · exact .inl h
  · exact .inr (.inl h)
  · exact .inr (.inr ⟨b, off, h1, by have := hb.size; omega, fun i hi => (hb.cell (by exact h2)).trans (h3 i hi)⟩)

theorem Src.drewN {w : World} {B m : Nat} {a : Option Addr} {z : Nat → Int} (h : Src w B a m z) (n : Nat) : Src (w.drewN n) B a m z := h

theorem belowN {B : Nat} {a w : World} (h : Below B a w) (n : Nat) : Below B a (w.drewN n) := h.trans ⟨rfl, rfl, rfl, Nat.le_refl _, fun _ _ => rfl⟩

end Go.Proofs.Qxb6603476a
