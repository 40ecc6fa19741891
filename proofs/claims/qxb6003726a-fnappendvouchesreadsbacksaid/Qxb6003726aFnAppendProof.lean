import Derived.Test.Qxb6003726aFnAppend
import Derived.Test.Qxb6003726aOpen
namespace Go.Proofs.Qxb6003726a.fnAppendVouchesReadsBack
open Go.ChangeShapes Go.WideShapes Go.ChangeAt Go.RowKit
set_option linter.unusedVariables false

theorem row_nat {w : World} {a : Option Addr} {len : Nat} {k : IntKind} {T : Nat → Int} (h : Row w a len fun i => .int k (T i)) (h0 : ∀ i, i < len → 0 ≤ T i) : Row w a len fun i => .int k ((T i).toNat : Nat) := by
  rcases h with h | ⟨b, off, rfl, hl, hc⟩
  · exact .inl h
  · refine .inr ⟨b, off, rfl, hl, fun i hi => ?_⟩
    show _ = some (Value.int k (((T i).toNat : Nat) : Int))
    rw [Int.toNat_of_nonneg (h0 i hi)]
    exact hc i hi

set_option maxRecDepth 100000 in
theorem lifted (os : Os) (started : os.Started) (H : Type) (enc : TypeId × Value → H) :
    ReturnsInHanded {} Try.checked os 5 .any (Rows.fnAppendVouchesReadsBackSpec.pre6 enc Try.prog Try.f5 Rows.fnAppendVouchesReadsBackRow.domain false) (Rows.fnAppendVouchesReadsBackSpec.post enc Try.prog Try.f5 false true false false) := by
  refine returnsInHanded_of_change (C := Try.checked) own started (by kernel_rfl) Try.func5
    (ChangeSpec.witness6 (enc := enc) (C := Try.checked) false ⟨#[], #[.slice none 0 0, .slice none 0 0, .slice none 0 0, .slice none 0 0], []⟩ 8 (by kernel_rfl) (by kernel_rfl) (by kernel_rfl) (by kernel_rfl)) ?_
  intro W base args ds gs before hval0 hW hcnd _
  have hval : ∀ (j : Nat) t v, Try.f5.params[j]? = some t → args[j]? = some v → Value.okWide Try.prog W .any base t v := hval0
  have hW' := hW
  obtain ⟨p, q, hA0, hV, rfl, hfz, hnd⟩ := hW
  have hA : DataW.TrodAll enc Try.prog W 0 (fun _ => true) true Try.f5.params.toList args.toList ds p := hA0
  rw [Try.params5] at hA hval
  obtain ⟨v0, vs0, d0, ds0, p0, q0, hargs, rfl, rfl, h0, r0⟩ := trodAll_cons hA
  obtain ⟨v1, vs1, d1, ds1, p1, q1, rfl, rfl, rfl, h1, r1⟩ := trodAll_cons r0
  obtain ⟨v2, vs2, d2, ds2, p2, q2, rfl, rfl, rfl, h2, r2⟩ := trodAll_cons r1
  obtain ⟨v3, vs3, d3, ds3, p3, q3, rfl, rfl, rfl, h3, r3⟩ := trodAll_cons r2
  obtain ⟨rfl, rfl, rfl⟩ := trodAll_nil r3
  obtain rfl : args = #[v0, v1, v2, v3] := by cases args; simp_all
  obtain ⟨rfl, rfl⟩ := trodVars_none hV
  have lt0 : ∀ x ∈ p0, x.block < W.heap.size := by obtain ⟨m, hm⟩ := h0; exact DataW.trod_lt m _ _ _ hm
  have lt1 : ∀ x ∈ p1, x.block < W.heap.size := by obtain ⟨m, hm⟩ := h1; exact DataW.trod_lt m _ _ _ hm
  have lt2 : ∀ x ∈ p2, x.block < W.heap.size := by obtain ⟨m, hm⟩ := h2; exact DataW.trod_lt m _ _ _ hm
  have lt3 : ∀ x ∈ p3, x.block < W.heap.size := by obtain ⟨m, hm⟩ := h3; exact DataW.trod_lt m _ _ _ hm
  obtain ⟨a0, len0, cap0, T0, rfl, w0, m0, s0⟩ := open_row_ints Try.underlying30 Try.underlying5 (by kernel_rfl) (hval 0 30 v0 rfl rfl) h0
  obtain ⟨a1, len1, cap1, S1, rfl, w1, m1, s1⟩ := open_row_strs Try.underlying29 Try.underlying9 (by kernel_rfl) (hval 1 29 v1 rfl rfl) h1
  obtain ⟨a2, len2, cap2, S2, rfl, w2, m2, s2⟩ := open_row_strs Try.underlying29 Try.underlying9 (by kernel_rfl) (hval 2 29 v2 rfl rfl) h2
  obtain ⟨a3, len3, cap3, T3, rfl, w3, m3, s3⟩ := open_row_ints Try.underlying22 Try.underlying25 (by kernel_rfl) (hval 3 22 v3 rfl rfl) h3
  clear hA0 hval0
  refine (f5_any a0 a1 a2 a3 len0 len1 len2 len3 cap0 cap1 cap2 cap3 S1 S2 (fun i => (T0 i).toNat) (fun i => (T3 i).toNat) W (row_nat w0 fun i hi => (bounds_u8 (s0 i hi)).1) w1 w2 (row_nat w3 fun i hi => (bounds_u64 (s3 i hi)).1) m0 m1 m2 m3 s1 s2
    (fun i hi => by have h := bounds_u64 (s3 i hi); show (T3 i).toNat < 18446744073709551616; omega)).mono fun e W' ⟨he, bel⟩ => ?_
  subst he
  exact ⟨_, rfl, _, _, _, [], _, [], hW', trodAll_mk1 (shut_bool Try.underlying4 _),
    (trodAll_cons_mk (Below.trod laidOut (by kernel_rfl) (of_decide_eq_true (by kernel_rfl)) h0 bel lt0) (trodAll_cons_mk (Below.trod laidOut (by kernel_rfl) (of_decide_eq_true (by kernel_rfl)) h1 bel lt1)
      (trodAll_cons_mk (Below.trod laidOut (by kernel_rfl) (of_decide_eq_true (by kernel_rfl)) h2 bel lt2) (trodAll_cons_mk (Below.trod laidOut (by kernel_rfl) (of_decide_eq_true (by kernel_rfl)) h3 bel lt3) trodAll_mk0)))),
    rfl, bel.frame _, fun h => by cases h⟩

theorem over : Rows.fnAppendVouchesReadsBackRow.holds Try.pinned (OpenSpec.ofChange Rows.fnAppendVouchesReadsBackSpec) :=
  OpenClaim.holds_of_wide 5 Try.f5 rfl rfl rfl rfl rfl rfl rfl ⟨rfl, rfl, rfl, rfl, rfl⟩ rfl rfl rfl rfl rfl (by kernel_rfl) Try.func5 (by kernel_rfl)
    (of_decide_eq_true (by kernel_rfl)) (by unfold Func.isWrapper; first | (rw [if_pos (by decide +kernel)]; kernel_rfl) | (rw [if_neg (by decide +kernel)]; exact ⟨rfl, rfl⟩))
    (fun os started H enc _ => lifted os started H enc)

/-- THE STATEMENT. -/
theorem proved : Rows.FnAppendVouchesReadsBackSaid := over
end Go.Proofs.Qxb6003726a.fnAppendVouchesReadsBack
