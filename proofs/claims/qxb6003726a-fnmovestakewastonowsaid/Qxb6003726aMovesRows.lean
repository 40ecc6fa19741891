import Derived.Test.Qxb6003726aMoves
namespace Go.Proofs.Qxb6003726a
open Go.RowKit

/-- The cells of the first k placings. -/
def plCells (S : Nat → ByteArray) (T : Nat → Int) : Nat → List Value
  | 0 => []
  | k + 1 => plCells S T k ++ [.string (S k), .int .u8 (T k)]
theorem plCells_length (S : Nat → ByteArray) (T : Nat → Int) : ∀ k, (plCells S T k).length = k * 2
  | 0 => rfl
  | k + 1 => by simp [plCells, plCells_length S T k]; omega
theorem plCells_at (S : Nat → ByteArray) (T : Nat → Int) : ∀ k i, i < k → (plCells S T k)[i * 2]? = some (.string (S i)) ∧ (plCells S T k)[i * 2 + 1]? = some (.int .u8 (T i))
  | 0, i, h => by omega
  | k + 1, i, h => by
    have hl := plCells_length S T k
    rcases Nat.lt_or_ge i k with c | c
    · obtain ⟨h1, h2⟩ := plCells_at S T k i c
      simp only [plCells]
      rw [List.getElem?_append_left (by omega), List.getElem?_append_left (by omega)]
      exact ⟨h1, h2⟩
    · obtain rfl : i = k := by omega
      simp only [plCells]
      rw [List.getElem?_append_right (by omega), List.getElem?_append_right (by omega), hl]
      simp

theorem addr_add (g j : Nat) : (⟨g, 0, none⟩ : Addr).add j = ⟨g, j, none⟩ := by unfold Addr.add; split <;> simp_all

/-- A slice that owns its row, as a slice value. -/
theorem owns_slice {w : World} {base : Nat} {e : TypeId} {size : Nat} {v : Value} {n : Nat} {xs : List Value} (h : w.ownsRow base e size v n xs) :
    ∃ a c, v = .slice a n c ∧ (n = 0 ∨ ∃ g, a = some ⟨g, 0, none⟩ ∧ g < w.heap.size ∧ ∀ j u, xs[j]? = some u → w.cell? ⟨g, j, none⟩ = some u) := by
  by_cases hn : n = 0
  · subst hn
    rcases h.2 with ⟨rfl, _⟩ | ⟨g, cap, cur, rfl, r⟩
    · exact ⟨_, _, rfl, .inl rfl⟩
    · exact ⟨_, _, rfl, .inl rfl⟩
  · obtain ⟨g, cap, rfl, hb, hg⟩ := h.form (by omega)
    refine ⟨_, _, rfl, .inr ⟨g, rfl, hg, fun j u hu => ?_⟩⟩
    have := h.cells (g := g) rfl j u hu
    rwa [addr_add] at this

theorem owns_row2 {w : World} {base : Nat} {v : Value} {n : Nat} {S : Nat → ByteArray} {T : Nat → Int} (h : w.ownsRow base 40 2 v n (plCells S T n)) : ∃ a c, v = .slice a n c ∧ Row2 w a n S T := by
  obtain ⟨a, c, rfl, r⟩ := owns_slice h
  refine ⟨a, c, rfl, ?_⟩
  rcases r with r | ⟨g, rfl, hg, hc⟩
  · exact .inl r
  · refine .inr ⟨g, rfl, hg, fun i hi => ?_⟩
    obtain ⟨h1, h2⟩ := plCells_at S T n i hi
    exact ⟨hc _ _ h1, hc _ _ h2⟩

theorem Row2.below {w w' : World} {a : Option Addr} {len : Nat} {S : Nat → ByteArray} {T : Nat → Int} (h : Row2 w a len S T) {B : Nat} (hb : Below B w w') (hB : w.heap.size ≤ B) : Row2 w' a len S T := by
  rcases h with h | ⟨g, rfl, hlt, hc⟩
  · exact .inl h
  · exact .inr ⟨g, rfl, Nat.lt_of_lt_of_le hlt hb.size, fun i hi => ⟨(hb.cell (by exact Nat.lt_of_lt_of_le hlt hB)).trans (hc i hi).1, (hb.cell (by exact Nat.lt_of_lt_of_le hlt hB)).trans (hc i hi).2⟩⟩

/-- A slice of changes at the head of a block. -/
def Row3 (w : World) (a : Option Addr) (len : Nat) (C : Nat → ByteArray) (F G : Nat → Int) : Prop :=
  len = 0 ∨ ∃ g, a = some ⟨g, 0, none⟩ ∧ g < w.heap.size ∧ ∀ i, i < len → w.cell? ⟨g, i * 3, none⟩ = some (.string (C i)) ∧ w.cell? ⟨g, i * 3 + 1, none⟩ = some (.int .u8 (F i)) ∧ w.cell? ⟨g, i * 3 + 2, none⟩ = some (.int .u8 (G i))

theorem Row3.at {w : World} {a : Option Addr} {len : Nat} {C : Nat → ByteArray} {F G : Nat → Int} (h : Row3 w a len C F G) {i : Nat} (hi : i < len) :
    ∃ g, a = some ⟨g, 0, none⟩ ∧ g < w.heap.size ∧ ∀ i, i < len → w.cell? ⟨g, i * 3, none⟩ = some (.string (C i)) ∧ w.cell? ⟨g, i * 3 + 1, none⟩ = some (.int .u8 (F i)) ∧ w.cell? ⟨g, i * 3 + 2, none⟩ = some (.int .u8 (G i)) := by
  rcases h with h | h
  · omega
  · exact h

theorem chCells_at : ∀ (ch : List (ByteArray × Int × Int)) (i : Nat) (c : ByteArray × Int × Int), ch[i]? = some c → (chCells ch)[i * 3]? = some (.string c.1) ∧ (chCells ch)[i * 3 + 1]? = some (.int .u8 c.2.1) ∧ (chCells ch)[i * 3 + 2]? = some (.int .u8 c.2.2)
  | [], i, c, h => by simp at h
  | d :: ch, 0, c, h => by
    simp at h; subst h
    simp [chCells]
  | d :: ch, i + 1, c, h => by
    simp only [List.getElem?_cons_succ] at h
    obtain ⟨h1, h2, h3⟩ := chCells_at ch i c h
    have e : chCells (d :: ch) = .string d.1 :: .int .u8 d.2.1 :: .int .u8 d.2.2 :: chCells ch := by simp [chCells]
    rw [e, show (i + 1) * 3 = i * 3 + 3 by omega]
    simp only [List.getElem?_cons_succ]
    exact ⟨h1, h2, h3⟩

/-- What the law's own loops need of the changes. -/
structure Told (S S' : Nat → ByteArray) (T T' : Nat → Int) (n m l : Nat) (C : Nat → ByteArray) (F G : Nat → Int) : Prop where
  asc : ∀ i, i + 1 < l → Op.bytesLess (C i).toList (C (i + 1)).toList = true
  ne : ∀ i, i < l → F i ≠ G i
  frm : ∀ i, i < l → F i = look S T (C i) n
  to : ∀ i, i < l → G i = look S' T' (C i) m
  len : l = cnt (difA S S' T T' m) n + cnt (difB S S' T n) m

theorem told_of {S S' : Nat → ByteArray} {T T' : Nat → Int} {n m : Nat} {w : World} {base : Nat} {v : Value} {ch : List (ByteArray × Int × Int)} (h : w.ownsRow base 45 3 v ch.length (chCells ch)) (inv : Inv S S' T T' n m n m ch) :
    ∃ a c l C F G, v = .slice a l c ∧ l ≤ n + m ∧ Row3 w a l C F G ∧ Told S S' T T' n m l C F G := by
  obtain ⟨a, c, rfl, r⟩ := owns_slice h
  have hat : ∀ i, i < ch.length → ch[i]? = some (ch.getD i (ByteArray.empty, 0, 0)) := fun i hi => by simp [List.getD, hi]
  have hmem : ∀ i, i < ch.length → ch.getD i (ByteArray.empty, 0, 0) ∈ ch := fun i hi => List.mem_of_getElem? (hat i hi)
  refine ⟨a, c, ch.length, fun i => (ch.getD i (ByteArray.empty, 0, 0)).1, fun i => (ch.getD i (ByteArray.empty, 0, 0)).2.1, fun i => (ch.getD i (ByteArray.empty, 0, 0)).2.2, rfl, ?_, ?_, ?_, fun i hi => (inv.each _ (hmem i hi)).1, fun i hi => (inv.each _ (hmem i hi)).2.1, fun i hi => (inv.each _ (hmem i hi)).2.2, inv.len⟩
  · rw [inv.len]; exact Nat.add_le_add (cnt_le _ _) (cnt_le _ _)
  · rcases r with r | ⟨g, rfl, hg, hc⟩
    · exact .inl r
    · refine .inr ⟨g, rfl, hg, fun i hi => ?_⟩
      obtain ⟨h1, h2, h3⟩ := chCells_at ch i _ (hat i hi)
      exact ⟨hc _ _ h1, hc _ _ h2, hc _ _ h3⟩
  · intro i hi
    have hp := List.pairwise_iff_getElem.1 inv.asc i (i + 1) (by omega) hi (by omega)
    unfold blt at hp
    simpa [List.getD, hi, show i < ch.length by omega] using hp


/-- zzLookup over a list without doubles. -/
theorem f20_look (a a' : Option Addr) (len cap cap' : Nat) (S : Nat → ByteArray) (T : Nat → Int) (x : ByteArray) (w : World) (h : Row w a len fun i => .string (S i)) (h' : Row w a' len fun i => .int .u8 (T i)) (hm : len ≤ 1048576)
    (hinj : Hid (∀ i j, i < len → j < len → (S i).toList = (S j).toList → i = j)) :
    Calls Try.prog 20 #[.slice a len cap, .slice a' len cap', .string x] w fun e w' => e = .returned (.int .u8 (look S T x len)) ∧ w' = w := by
  refine (f20_any a a' len cap cap' S T x w h h' hm).mono ?_
  rintro e w' ⟨v, rfl, hf, rfl⟩
  rw [finds_look hinj.out hf]
  exact ⟨rfl, rfl⟩

end Go.Proofs.Qxb6003726a
