import Derived.Test.Qxb6003726aBase
namespace Go.Proofs.Qxb6003726a

/-! The plain arithmetic modulo 2^61 - 1. -/

theorem fold_mod (p : Nat) : (p % 2305843009213693952 + p / 2305843009213693952) % 2305843009213693951 = p % 2305843009213693951 := by omega
theorem fold_lt (a b : Nat) (ha : a < 2305843009213693951) (hb : b < 2305843009213693951) : a * b < 5316911983139663487003542222693990401 ∧ a * b % 2305843009213693952 + a * b / 2305843009213693952 < 4611686018427387902 := by
  have h1 : a * b ≤ 2305843009213693950 * 2305843009213693950 := Nat.mul_le_mul (by omega) (by omega)
  generalize a * b = p at *
  omega

theorem mod_stepI (M a b c : Int) : (a % M + b % M * c) % M = (a + b * c) % M := by
  rw [Int.add_emod, Int.emod_emod, Int.mul_emod, Int.emod_emod, ← Int.mul_emod, ← Int.add_emod]

/-- One round of doubling and adding. -/
theorem dbl_odd (r a b : Int) (h : b % 2 = 1) : ((r + a) % 2305843009213693951 + (a + a) % 2305843009213693951 * (b / 2)) % 2305843009213693951 = (r + a * b) % 2305843009213693951 := by
  rw [mod_stepI]
  have e : b = b / 2 + b / 2 + 1 := by omega
  have e2 : r + a + (a + a) * (b / 2) = r + a * b := by
    generalize b / 2 = c at *
    rw [e, Int.add_mul, Int.mul_add, Int.mul_add]
    omega
  rw [e2]
theorem dbl_even (r a b : Int) (h0 : 0 ≤ r) (hr : r < 2305843009213693951) (h : b % 2 = 0) : (r + (a + a) % 2305843009213693951 * (b / 2)) % 2305843009213693951 = (r + a * b) % 2305843009213693951 := by
  have hm := mod_stepI 2305843009213693951 r (a + a) (b / 2)
  rw [Int.emod_eq_of_lt h0 hr] at hm
  rw [hm]
  have e : b = b / 2 + b / 2 := by omega
  have e2 : r + (a + a) * (b / 2) = r + a * b := by
    generalize b / 2 = c at *
    rw [e, Int.add_mul, Int.mul_add]
  rw [e2]

/-- The characteristic polynomial of the first k elements at z. -/
def prodTo (E : Nat → Int) (z : Int) : Nat → Int
  | 0 => 1
  | k + 1 => prodTo E z k * ((z + 2305843009213693951 - E k) % 2305843009213693951) % 2305843009213693951
theorem prodTo_bd (E : Nat → Int) (z : Int) : ∀ k, 0 ≤ prodTo E z k ∧ prodTo E z k < 2305843009213693951
  | 0 => by simp [prodTo]
  | k + 1 => ⟨Int.emod_nonneg _ (by omega), Int.emod_lt_of_pos _ (by omega)⟩

end Go.Proofs.Qxb6003726a
