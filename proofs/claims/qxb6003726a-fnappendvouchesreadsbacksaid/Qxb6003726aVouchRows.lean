import Derived.Test.Qxb6003726aVouches
namespace Go.Proofs.Qxb6003726a
open Go.RowKit

theorem Try.info52 : (Try.prog.info? 52).map (fun i => (i.zero, i.size, i.bytes)) = some (some (.agg #[.string ByteArray.empty, .string ByteArray.empty, .int .u64 0]), 3, 40) := by kernel_rfl

/-- ZZVouchOf: the struct by value, behind one new block. -/
theorem f22_any (s z : ByteArray) (v : Int) (w : World) :
    Calls Try.prog 22 #[.string s, .string z, .int .u64 v] w fun e w' => e = .returned (.agg #[.string s, .string z, .int .u64 v]) ∧ ∃ o, w' = w.alloc o := by
  go_enter Try.func22, Try.ntmps22
  go_wp2
  exact bodyPost_ret (v := .agg #[.string s, .string z, .int .u64 v]) (by simp [results, Try.results22, go_sem]) rfl ⟨rfl, _, rfl⟩

/-- The vouches, or none. -/
def VSlice (w : World) (B : Nat) (a : Option Addr) (n : Nat) (S Z : Nat → ByteArray) (V : Nat → Nat) : Prop := n = 0 ∨ ∃ g, a = some ⟨g, 0, none⟩ ∧ g < B ∧ VRow w g n S Z V

theorem f23_any (B n c m : Nat) (a : Option Addr) (S Z : Nat → ByteArray) (V : Nat → Nat) (sv : Value) (xs : List Value) (w : World) (hrow : VSlice w B a n S Z V) (hB : B ≤ w.heap.size) (hn : n ≤ 4096) (hc : n ≤ c)
    (hown : w.ownsRow B 5 1 sv m xs) (hm : m ≤ 1048576) (hS : ∀ i, i < n → (S i).size ≤ 1048576) (hZ : ∀ i, i < n → (Z i).size ≤ 1048576) (HV : Hid (∀ i, i < n → V i < 18446744073709551616)) :
    Calls Try.prog 23 #[sv, .slice a n c] w fun e w' => ∃ v', e = .returned v' ∧
      w'.ownsRow B 5 1 v' (m + (Lib.uvarint (cnt (start S) n) ++ enc S Z V n n).length) (xs ++ Lib.byteCells (Lib.uvarint (cnt (start S) n) ++ enc S Z V n n)) ∧ Below B w w' := by
  have h34 : Calls Try.prog 34 #[sv, .slice a n c] w fun e w' => ∃ v', e = .returned v' ∧
      w'.ownsRow B 5 1 v' (m + (Lib.uvarint (cnt (start S) n) ++ enc S Z V n n).length) (xs ++ Lib.byteCells (Lib.uvarint (cnt (start S) n) ++ enc S Z V n n)) ∧ Below B w w' := by
    by_cases h0 : n = 0
    · subst h0
      exact f34_zero B c m a S Z V sv xs w hB hown hm
    · rcases hrow with h | ⟨g, rfl, hg, hrow⟩
      · exact absurd h h0
      · exact f34_pos B g n c m S Z V sv xs w hrow hg hB (by omega) hn hc hown hm hS hZ HV
  clear hS hZ HV hown hrow
  go_enter Try.func23, Try.ntmps23
  go_wp2_with fail
  refine h34.mono ?_
  clear h34
  rintro e w' ⟨v', rfl, ho, hb⟩
  go_wp2
  go_ret
  exact ⟨_, rfl, ho, hb⟩

/-- The cells of the first k vouches. -/
def vCells (S Z : Nat → ByteArray) (V : Nat → Nat) : Nat → List Value
  | 0 => []
  | k + 1 => vCells S Z V k ++ [.string (S k), .string (Z k), .int .u64 (V k)]
theorem vCells_length (S Z : Nat → ByteArray) (V : Nat → Nat) : ∀ k, (vCells S Z V k).length = k * 3
  | 0 => rfl
  | k + 1 => by simp [vCells, vCells_length S Z V k]; omega
theorem vCells_at (S Z : Nat → ByteArray) (V : Nat → Nat) : ∀ k i, i < k → (vCells S Z V k)[i * 3]? = some (.string (S i)) ∧ (vCells S Z V k)[i * 3 + 1]? = some (.string (Z i)) ∧ (vCells S Z V k)[i * 3 + 2]? = some (.int .u64 (V i))
  | 0, i, h => by omega
  | k + 1, i, h => by
    have hl := vCells_length S Z V k
    rcases Nat.lt_or_ge i k with c | c
    · obtain ⟨h1, h2, h3⟩ := vCells_at S Z V k i c
      simp only [vCells]
      rw [List.getElem?_append_left (by omega), List.getElem?_append_left (by omega), List.getElem?_append_left (by omega)]
      exact ⟨h1, h2, h3⟩
    · obtain rfl : i = k := by omega
      simp only [vCells]
      rw [List.getElem?_append_right (by omega), List.getElem?_append_right (by omega), List.getElem?_append_right (by omega), hl]
      simp

theorem addr_add0 (g j : Nat) : (⟨g, 0, none⟩ : Addr).add j = ⟨g, j, none⟩ := by unfold Addr.add; split <;> simp_all

/-- A slice that owns its row, as a slice value, with its capacity. -/
theorem owns_slice_cap {w : World} {base : Nat} {e : TypeId} {size : Nat} {v : Value} {n : Nat} {xs : List Value} (h : w.ownsRow base e size v n xs) :
    ∃ a c, v = .slice a n c ∧ n ≤ c ∧ (n = 0 ∨ ∃ g, a = some ⟨g, 0, none⟩ ∧ g < w.heap.size ∧ ∀ j u, xs[j]? = some u → w.cell? ⟨g, j, none⟩ = some u) := by
  rcases h.2 with ⟨rfl, rfl⟩ | ⟨g, cap, cur, rfl, hb, hh, hcap, r⟩
  · exact ⟨_, _, rfl, Nat.le_refl _, .inl rfl⟩
  · refine ⟨_, _, rfl, hcap, .inr ⟨g, rfl, (Array.getElem?_eq_some_iff.1 hh).1, fun j u hu => ?_⟩⟩
    have := h.cells (g := g) rfl j u hu
    rwa [addr_add0] at this

theorem owns_vslice {w : World} {base : Nat} {v : Value} {n : Nat} {S Z : Nat → ByteArray} {V : Nat → Nat} (h : w.ownsRow base 52 3 v n (vCells S Z V n)) : ∃ a c, v = .slice a n c ∧ n ≤ c ∧ VSlice w w.heap.size a n S Z V := by
  obtain ⟨a, c, rfl, hc, r⟩ := owns_slice_cap h
  refine ⟨a, c, rfl, hc, ?_⟩
  rcases r with r | ⟨g, rfl, hg, hcell⟩
  · exact .inl r
  · refine .inr ⟨g, rfl, hg, fun i hi => ?_⟩
    obtain ⟨h1, h2, h3⟩ := vCells_at S Z V n i hi
    exact ⟨hcell _ _ h1, hcell _ _ h2, hcell _ _ h3⟩
theorem VSlice.below {w w' : World} {a : Option Addr} {B n : Nat} {S Z : Nat → ByteArray} {V : Nat → Nat} (h : VSlice w B a n S Z V) (hb : Below B w w') : VSlice w' B a n S Z V := by
  rcases h with h | ⟨g, rfl, hg, hr⟩
  · exact .inl h
  · exact .inr ⟨g, rfl, hg, hr.below hb hg⟩

/-- The bytes behind a prefix. -/
def outD (P0 : Nat → Nat) (l0 : Nat) (E : List UInt8) (i : Nat) : Nat := if i < l0 then P0 i else (E.getD (i - l0) 0).toNat
theorem outD_pre (P0 : Nat → Nat) (l0 : Nat) (E : List UInt8) : ∀ i, i < l0 → outD P0 l0 E i = P0 i := fun i hi => by rw [outD, if_pos hi]
theorem outD_lies (P0 : Nat → Nat) (l0 : Nat) (E : List UInt8) : Lies (outD P0 l0 E) l0 E := fun i _ => by rw [outD, if_neg (by omega), Nat.add_sub_cancel_left]
theorem out_row {w : World} {base : Nat} {v : Value} {P0 : Nat → Nat} {l0 : Nat} {E : List UInt8} (h : w.ownsRow base 5 1 v (l0 + E.length) (cellsOf (fun i => .int .u8 (P0 i)) l0 ++ Lib.byteCells E)) :
    ∃ a c, v = .slice a (l0 + E.length) c ∧ l0 + E.length ≤ c ∧ Row w a (l0 + E.length) fun i => .int .u8 (outD P0 l0 E i) := by
  obtain ⟨a, c, rfl, hc, r⟩ := owns_slice_cap h
  refine ⟨a, c, rfl, hc, ?_⟩
  rcases r with r | ⟨g, rfl, hg, hcell⟩
  · exact .inl r
  · refine .inr ⟨g, 0, rfl, hg, fun i hi => ?_⟩
    rw [Nat.zero_add]
    refine hcell i _ ?_
    show _ = some (Value.int .u8 ((outD P0 l0 E i : Nat) : Int))
    unfold outD
    by_cases hl : i < l0
    · rw [if_pos hl, List.getElem?_append_left (by rw [cellsOf_length]; exact hl)]
      exact cellsOf_at _ _ _ hl
    · rw [if_neg hl, List.getElem?_append_right (by rw [cellsOf_length]; omega), cellsOf_length]
      simp only [Lib.byteCells, List.getElem?_map, List.getD_eq_getElem?_getD]
      rw [List.getElem?_eq_getElem (by omega)]
      rfl

/-- A cloned row as a row that is owned. -/
theorem owns_of_block {w : World} {g e len : Nat} {C : Nat → Value} {base : Nat} (h : w.heap[g]? = some (.cells (cellsOf C len).toArray e (0, 0))) (hb : base ≤ g) (hm : len ≤ 1048576) :
    w.ownsRow base e 1 (.slice (some ⟨g, 0, none⟩) len len) len (cellsOf C len) := by
  refine ⟨by rw [cellsOf_length]; omega, .inr ⟨g, len, _, rfl, hb, h, Nat.le_refl _, by unfold maxLen; omega, by simp [cellsOf_length], ?_⟩⟩
  rw [Nat.mul_one]
  exact List.take_of_length_le (by rw [cellsOf_length]; exact Nat.le_refl _)

end Go.Proofs.Qxb6003726a
