import Derived.Test.Qxb6003726aBase
namespace Go.Proofs.Qxb6003726a
open Go.RowKit

theorem Try.info9 : (Try.prog.info? 9).map (fun i => (i.zero, i.size, i.bytes)) = some (some (.string ByteArray.empty), 1, 16) := by kernel_rfl
theorem Try.info5 : (Try.prog.info? 5).map (fun i => (i.zero, i.size, i.bytes)) = some (some (.int .u8 0), 1, 1) := by kernel_rfl
theorem Try.info25 : (Try.prog.info? 25).map (fun i => (i.zero, i.size, i.bytes)) = some (some (.int .u64 0), 1, 8) := by kernel_rfl

/-- The cells of a row, as a list. -/
def cellsOf (C : Nat → Value) (len : Nat) : List Value := (List.range len).map C
theorem cellsOf_length (C : Nat → Value) (len : Nat) : (cellsOf C len).length = len := by simp [cellsOf]
theorem cellsOf_at (C : Nat → Value) (len i : Nat) (h : i < len) : (cellsOf C len)[i]? = some (C i) := by simp [cellsOf, h]
theorem cellsOf_some {C : Nat → Value} {len j : Nat} {v : Value} (h : (cellsOf C len)[j]? = some v) : j < len ∧ v = C j := by
  have hj : j < len := by
    have := (List.getElem?_eq_some_iff.1 h).1
    rwa [cellsOf_length] at this
  rw [cellsOf_at C len j hj] at h
  exact ⟨hj, by simpa using h.symm⟩

theorem row_of_block {w : World} {g e : Nat} {C : Nat → Value} {len : Nat} (h : w.heap[g]? = some (.cells (cellsOf C len).toArray e (0, 0))) : Row w (some ⟨g, 0, none⟩) len C := by
  refine .inr ⟨g, 0, rfl, (Array.getElem?_eq_some_iff.1 h).1, fun i hi => ?_⟩
  rw [cell_of_row w g _ _ _ _ h]
  simp only [Nat.zero_add, List.getElem?_toArray]
  exact cellsOf_at C len i hi

/-- 'c := make([]T, len(s)); copy(c, s)': what the two operations come to. -/
theorem clone_runs (t e : TypeId) {z : Value} {bytes : Nat} (ht : Try.prog.underlying t = some (.slice e)) (hinfo : (Try.prog.info? e).map (fun i => (i.zero, i.size, i.bytes)) = some (some z, 1, bytes)) (hb : bytes ≤ 16)
    (a : Option Addr) (len cap : Nat) (C : Nat → Value) (w : World) (h : Row w a len C) (h1 : ∀ i, i < len → (C i).oneCell' = true) (hm : len ≤ 1048576) :
    ∃ w1 w2, (Instr.makeSlice t (.int .i64 len) (.int .i64 len)).run Try.prog w = .ok (.slice (some ⟨w.heap.size, 0, none⟩) len len) w1 ∧
      (∀ ty, (Builtin.copy_ #[t, t] ty #[.slice (some ⟨w.heap.size, 0, none⟩) len len, .slice a len cap]).run Try.prog w1 = .ok (goInt len) w2) ∧
      w2.heap[w.heap.size]? = some (.cells (cellsOf C len).toArray e (0, 0)) ∧ Below w.heap.size w w2 ∧ w2.heap.size = w.heap.size + 1 := by
  obtain ⟨i, hi, hz0, hz1, hz2⟩ := info_parts hinfo
  have hmk := run_make (P := Try.prog) w t e i z ht hi hz0 .i64 .i64 len len (by omega) (Int.le_refl _) (by rw [hz2]; have : (bytes : Int) * (len : Int) ≤ 16 * 1048576 := Int.mul_le_mul (by omega) (by omega) (by omega) (by omega); omega) (by omega)
  rw [hz1] at hmk
  simp only [Int.toNat_natCast, Nat.mul_one] at hmk
  have hsz : (Try.prog.info? e).map (·.size) = some 1 := by rw [hi]; simp [hz1]
  by_cases h0 : len = 0
  · subst h0
    refine ⟨_, _, hmk, fun ty => run_copy_none _ t t ty e _ a 0 0 0 cap ht hsz (by simp), ?_, (Below.refl _ _).alloc (Nat.le_refl _) _, by simp⟩
    rw [show madeCells z.cells 0 = #[] by simp [madeCells]]
    exact heap_alloc_new w _
  · obtain ⟨b, off, rfl, hbl, hc⟩ := h.at (i := 0) (by omega)
    have hw1 := heap_alloc_new w (.cells (madeCells z.cells len) e)
    refine ⟨_, _, hmk, fun ty => (run_copy_row (P := Try.prog) _ t t ty e w.heap.size 0 len len ⟨b, off, none⟩ len cap (madeCells z.cells len) e (cellsOf C len) ht hsz hw1 (by simp [cellsOf_length]) ?_ (by simp [cellsOf_length, size_madeCells]) ?_).trans (by rw [cellsOf_length]), ?_, ?_, ?_⟩
    · intro j v hj
      obtain ⟨hjl, rfl⟩ := cellsOf_some hj
      have : (⟨b, off, none⟩ : Addr).add j = ⟨b, off + j, none⟩ := by unfold Addr.add; split <;> simp_all
      rw [this, ((Below.refl w.heap.size w).alloc (Nat.le_refl _) _).cell (by exact hbl)]
      exact hc j hjl
    · intro v hv
      obtain ⟨j, hj, rfl⟩ := List.getElem_of_mem hv
      obtain ⟨hjl, hv'⟩ := cellsOf_some (List.getElem?_eq_getElem hj)
      rw [hv']; exact h1 j hjl
    · rw [setRow_heap _ _ _ _ _ _ hw1]
      have hl : List.drop (0 + len) (madeCells z.cells len).toList = [] := List.drop_eq_nil_of_le (by simp [size_madeCells])
      rw [hl]
      simp
    · exact below_setRow ((Below.refl _ _).alloc (Nat.le_refl _) _) (Nat.le_refl _) _
    · simp [World.setRow]

/-- Of a clone: the same elements in new memory; nothing old has turned. -/
def Cloned (C : Nat → Value) (len : Nat) (w : World) (e : Ending) (w' : World) : Prop :=
  ∃ a' cap', e = .returned (.slice a' len cap') ∧ Row w' a' len C ∧ Below w.heap.size w w'

set_option maxHeartbeats 400000 in
theorem f16_any (a : Option Addr) (len cap : Nat) (S : Nat → ByteArray) (w : World) (h : Row w a len fun i => .string (S i)) (hm : len ≤ 1048576) :
    Calls Try.prog 16 #[.slice a len cap] w (Cloned (fun i => .string (S i)) len w) := by
  have heq := fun w => Lib.run_eql_slice_nil (P := Try.prog) w 29 9 a len cap 0 0 Try.underlying29
  cases a with
  | none =>
    obtain rfl : len = 0 := by rcases h with h | ⟨b, off, h, _⟩; exact h; cases h
    go_enter Try.func16, Try.ntmps16
    go_wp2
    go_ret
    exact ⟨none, 0, rfl, .inl rfl, Below.refl _ _⟩
  | some x =>
    obtain ⟨w1, w2, hmk, hcp, hblk, hbel, _⟩ := clone_runs 29 9 Try.underlying29 Try.info9 (by omega) (some x) len cap _ w h (fun _ _ => rfl) hm
    have HB : Hid (w2.heap[w.heap.size]? = some (.cells (cellsOf (fun i => .string (S i)) len).toArray 9 (0, 0))) := hblk
    clear hblk h
    go_enter Try.func16, Try.ntmps16
    go_wp2
    go_ret
    exact ⟨_, _, rfl, row_of_block HB.out, hbel⟩

set_option maxHeartbeats 400000 in
theorem f17_any (a : Option Addr) (len cap : Nat) (T : Nat → Int) (w : World) (h : Row w a len fun i => .int .u8 (T i)) (hm : len ≤ 1048576) :
    Calls Try.prog 17 #[.slice a len cap] w (Cloned (fun i => .int .u8 (T i)) len w) := by
  have heq := fun w => Lib.run_eql_slice_nil (P := Try.prog) w 30 5 a len cap 0 0 Try.underlying30
  cases a with
  | none =>
    obtain rfl : len = 0 := by rcases h with h | ⟨b, off, h, _⟩; exact h; cases h
    go_enter Try.func17, Try.ntmps17
    go_wp2
    go_ret
    exact ⟨none, 0, rfl, .inl rfl, Below.refl _ _⟩
  | some x =>
    obtain ⟨w1, w2, hmk, hcp, hblk, hbel, _⟩ := clone_runs 30 5 Try.underlying30 Try.info5 (by omega) (some x) len cap _ w h (fun _ _ => rfl) hm
    have HB : Hid (w2.heap[w.heap.size]? = some (.cells (cellsOf (fun i => .int .u8 (T i)) len).toArray 5 (0, 0))) := hblk
    clear hblk h
    go_enter Try.func17, Try.ntmps17
    go_wp2
    go_ret
    exact ⟨_, _, rfl, row_of_block HB.out, hbel⟩

set_option maxHeartbeats 400000 in
theorem f8_any (a : Option Addr) (len cap : Nat) (T : Nat → Int) (w : World) (h : Row w a len fun i => .int .u64 (T i)) (hm : len ≤ 1048576) :
    Calls Try.prog 8 #[.slice a len cap] w (Cloned (fun i => .int .u64 (T i)) len w) := by
  have heq := fun w => Lib.run_eql_slice_nil (P := Try.prog) w 22 25 a len cap 0 0 Try.underlying22
  cases a with
  | none =>
    obtain rfl : len = 0 := by rcases h with h | ⟨b, off, h, _⟩; exact h; cases h
    go_enter Try.func8, Try.ntmps8
    go_wp2
    go_ret
    exact ⟨none, 0, rfl, .inl rfl, Below.refl _ _⟩
  | some x =>
    obtain ⟨w1, w2, hmk, hcp, hblk, hbel, _⟩ := clone_runs 22 25 Try.underlying22 Try.info25 (by omega) (some x) len cap _ w h (fun _ _ => rfl) hm
    have HB : Hid (w2.heap[w.heap.size]? = some (.cells (cellsOf (fun i => .int .u64 (T i)) len).toArray 25 (0, 0))) := hblk
    clear hblk h
    go_enter Try.func8, Try.ntmps8
    go_wp2
    go_ret
    exact ⟨_, _, rfl, row_of_block HB.out, hbel⟩

/-- ZZPlacingOf: the struct by value, behind one new block. -/
theorem f18_any (s : ByteArray) (n : Int) (w : World) :
    Calls Try.prog 18 #[.string s, .int .u8 n] w fun e w' => e = .returned (.agg #[.string s, .int .u8 n]) ∧ ∃ o, w' = w.alloc o := by
  go_enter Try.func18, Try.ntmps18
  go_wp2
  exact bodyPost_ret (v := .agg #[.string s, .int .u8 n]) (by simp [results, Try.results18, go_sem]) rfl ⟨rfl, _, rfl⟩

end Go.Proofs.Qxb6003726a
