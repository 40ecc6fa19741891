import Derived.Test.Qxb6003726aBase
import Derived.ProofKit
import Derived.OpenShut
import Derived.ShutString
import Derived.ChangeOld
namespace Go.Proofs.Qxb6003726a
open Go.ChangeShapes Go.WideShapes Go.ChangeAt Go.RowKit
open Go.ChangeMaps (open_string shut_string)

theorem own : ownKnob Try.prog.godebug = none := by kernel_rfl
theorem laidOut : laidOutB Try.prog = true := by kernel_rfl

/-- A row of cells as it is read off an argument. -/
theorem row_of_cells {w : World} {a : Addr} {len : Nat} {C : Nat → Value} (h : ∀ i, i < len → w.cell? (a.add i) = some (C i)) : Row w (some a) len C := by
  by_cases h0 : len = 0
  · exact .inl h0
  · obtain ⟨b, off, spot⟩ := a
    have hc0 := h 0 (by omega)
    have hspot : spot = none := by simpa [Addr.add] using World.cell?_spot hc0
    subst hspot
    have hlt := World.block_lt_of_cell? w _ (by simpa [Addr.add] using hc0)
    refine .inr ⟨b, off, rfl, hlt, fun i hi => ?_⟩
    rw [← Go.WideShapes.add_plain]
    exact h i hi

/-- A slice of strings that came in. -/
theorem open_row_strs {P : Program} {H : Type} {enc : TypeId × Value → H} {W : World} {t e : TypeId} {v : Value} {d : DataW H} {p : List MemPlace} (ht : P.underlying t = some (.slice e)) (he : P.underlying e = some .string) (hc : P.cellsOf e = 1)
    {base : Nat} {r : Reach} (hv : Value.okWide P W r base t v) (h : DataW.Trod enc P W 0 (fun _ => true) true t v d p) :
    ∃ (a : Option Addr) (len cap : Nat) (S : Nat → ByteArray), v = .slice a len cap ∧ Row W a len (fun i => .string (S i)) ∧ len ≤ 9223372036854775807 ∧ ∀ i, i < len → (S i).size ≤ 9223372036854775807 := by
  obtain ⟨a0, len0, cap0, rfl⟩ := okWide_slice ht hv
  obtain ⟨fuel, hf⟩ := h
  rcases open_strings ht he hc hf with ⟨hcs, _⟩ | ⟨x, l, c, ss, hcs, _, hl, hm, hz, _, hcell, hwz⟩
  · simp [Value.cells] at hcs
    obtain ⟨rfl, rfl, rfl⟩ := hcs
    exact ⟨none, 0, 0, fun _ => ByteArray.empty, rfl, .inl rfl, by omega, fun i hi => by omega⟩
  · simp [Value.cells] at hcs
    obtain ⟨rfl, rfl, rfl⟩ := hcs
    simp only [if_true] at hz
    unfold maxLen at hm hwz
    refine ⟨some x, len0, cap0, fun i => ss.getD i ByteArray.empty, rfl, row_of_cells fun i hi => hcell i (by omega), by omega, fun i hi => ?_⟩
    refine hwz _ ?_
    show List.getD _ i _ ∈ _
    rw [List.getD_eq_getElem?_getD, List.getElem?_eq_getElem (by omega)]
    simp

/-- A slice of integers that came in. -/
theorem open_row_ints {P : Program} {H : Type} {enc : TypeId × Value → H} {W : World} {t e : TypeId} {k : IntKind} {v : Value} {d : DataW H} {p : List MemPlace} (ht : P.underlying t = some (.slice e)) (he : P.underlying e = some (.int k)) (hc : P.cellsOf e = 1)
    {base : Nat} {r : Reach} (hv : Value.okWide P W r base t v) (h : DataW.Trod enc P W 0 (fun _ => true) true t v d p) :
    ∃ (a : Option Addr) (len cap : Nat) (T : Nat → Int), v = .slice a len cap ∧ Row W a len (fun i => .int k (T i)) ∧ len ≤ 9223372036854775807 ∧ ∀ i, i < len → (Lit.int k (T i)).wf = true := by
  obtain ⟨a0, len0, cap0, rfl⟩ := okWide_slice ht hv
  obtain ⟨fuel, hf⟩ := h
  rcases open_ints ht he hc hf with ⟨hcs, _⟩ | ⟨x, l, c, zs, hcs, _, hl, hm, hz, _, hcell, hwz⟩
  · simp [Value.cells] at hcs
    obtain ⟨rfl, rfl, rfl⟩ := hcs
    exact ⟨none, 0, 0, fun _ => 0, rfl, .inl rfl, by omega, fun i hi => by omega⟩
  · simp [Value.cells] at hcs
    obtain ⟨rfl, rfl, rfl⟩ := hcs
    simp only [if_true] at hz
    unfold maxLen at hm
    refine ⟨some x, len0, cap0, fun i => zs.getD i 0, rfl, row_of_cells fun i hi => hcell i (by omega), by omega, fun i hi => ?_⟩
    refine hwz _ ?_
    show List.getD _ i _ ∈ _
    rw [List.getD_eq_getElem?_getD, List.getElem?_eq_getElem (by omega)]
    simp

end Go.Proofs.Qxb6003726a
