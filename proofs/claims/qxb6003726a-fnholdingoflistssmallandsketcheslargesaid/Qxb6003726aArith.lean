import Derived.Test.Qxb6003726aModLaw
import Derived.Test.Qxb6003726aClones
import Derived.Lib.Mul64
import Derived.Laws.Bits64b
import Derived.Lib.EndianBits
namespace Go.Proofs.Qxb6003726a
open Go.RowKit

theorem f43_lo (v : Int) (w : World) (h0 : 0 ≤ v) (h : v < 2305843009213693951) : Calls Try.prog 43 #[.int .u64 v] w fun e w' => e = .returned (.int .u64 v) ∧ w' = w := by
  go_enter Try.func43, Try.ntmps43
  go_wp2
  go_ret
  exact ⟨rfl, rfl⟩
theorem f43_hi (v : Int) (w : World) (h : 2305843009213693951 ≤ v) (h2 : v < 4611686018427387902) : Calls Try.prog 43 #[.int .u64 v] w fun e w' => e = .returned (.int .u64 (v - 2305843009213693951)) ∧ w' = w := by
  go_enter Try.func43, Try.ntmps43
  go_wp2
  go_ret
  exact ⟨rfl, rfl⟩
/-- reduce. -/
theorem f43_any (v : Int) (w : World) (h0 : 0 ≤ v) (h2 : v < 4611686018427387902) : Calls Try.prog 43 #[.int .u64 v] w fun e w' => e = .returned (.int .u64 (v % 2305843009213693951)) ∧ w' = w := by
  by_cases h : v < 2305843009213693951
  · rw [Int.emod_eq_of_lt h0 h]; exact f43_lo v w h0 h
  · rw [show v % 2305843009213693951 = v - 2305843009213693951 by omega]; exact f43_hi v w (by omega) h2

theorem and_M (x : Int) (h0 : 0 ≤ x) (h1 : x < 18446744073709551616) : bits .and .u64 x 2305843009213693951 = x % 2305843009213693952 := by
  obtain ⟨a, rfl⟩ := Int.eq_ofNat_of_zero_le h0
  have h := bits_and_u64_nat a 2305843009213693951 (by omega) (by omega)
  have e : a &&& 2305843009213693951 = a % 2305843009213693952 := Nat.and_two_pow_sub_one_eq_mod a 61
  rw [e] at h
  exact h.trans (by omega)

/-- residue. -/
theorem f38_any (f : Int) (w : World) (h0 : 0 ≤ f) (h1 : Hid (f < 18446744073709551616)) : Calls Try.prog 38 #[.int .u64 f] w fun e w' => e = .returned (.int .u64 (f % 2305843009213693951)) ∧ w' = w := by
  have ha := and_M f h0 h1.out
  have q0 : 0 ≤ f % 2305843009213693952 := by omega
  have q1 : f % 2305843009213693952 < 2305843009213693952 := by omega
  have q2 : 0 ≤ f / 2305843009213693952 := by omega
  have q3 : f / 2305843009213693952 < 8 := by have := h1.out; omega
  go_enter Try.func38, Try.ntmps38
  go_wp2_with fail
  refine (f43_any _ _ ?_ ?_).mono ?_
  · omega
  · omega
  rintro e w' ⟨rfl, rfl⟩
  go_wp2
  go_ret
  exact ⟨congrArg (fun n : Int => Ending.returned (.int .u64 n)) (by omega), rfl⟩

/-- sketchPoint. -/
theorem f40_any (j : Int) (w : World) (h0 : 0 ≤ j) (h1 : j ≤ 12) : Calls Try.prog 40 #[.int .i64 j] w fun e w' => e = .returned (.int .u64 (2305843009213693950 - j)) ∧ w' = w := by
  go_enter Try.func40, Try.ntmps40
  go_wp2
  go_ret
  exact ⟨rfl, rfl⟩

/-- sub. -/
theorem f45_any (a b : Int) (w : World) (a0 : 0 ≤ a) (a1 : a < 2305843009213693951) (b0 : 0 ≤ b) (b1 : b < 2305843009213693951) : Calls Try.prog 45 #[.int .u64 a, .int .u64 b] w fun e w' => e = .returned (.int .u64 ((a + 2305843009213693951 - b) % 2305843009213693951)) ∧ w' = w := by
  go_enter Try.func45, Try.ntmps45
  go_wp2_with fail
  refine (f43_any _ _ ?_ ?_).mono ?_
  · omega
  · omega
  rintro e w' ⟨rfl, rfl⟩
  go_wp2
  go_ret
  exact ⟨rfl, rfl⟩

/-- zzAddMod. -/
theorem f11_any (x y : Int) (w : World) (x0 : 0 ≤ x) (y0 : 0 ≤ y) (h : x + y < 4611686018427387902) : Calls Try.prog 11 #[.int .u64 x, .int .u64 y] w fun e w' => e = .returned (.int .u64 ((x + y) % 2305843009213693951)) ∧ w' = w := by
  by_cases hc : x + y < 2305843009213693951
  · go_enter Try.func11, Try.ntmps11
    go_wp2
    go_ret
    exact ⟨congrArg (fun n : Int => Ending.returned (.int .u64 n)) (by omega), rfl⟩
  · go_enter Try.func11, Try.ntmps11
    go_wp2
    go_ret
    exact ⟨congrArg (fun n : Int => Ending.returned (.int .u64 n)) (by omega), rfl⟩


theorem maskN (a : Nat) (ha : a < 18446744073709551616) : bits .and .u64 (a : Int) 4294967295 = ((a % 4294967296 : Nat) : Int) := by
  have h := bits_and_u64_nat a 4294967295 ha (by omega)
  have e : a &&& 4294967295 = a % 4294967296 := Nat.and_two_pow_sub_one_eq_mod a 32
  rw [e] at h
  exact h
theorem divN (a : Nat) : (a : Int) / 4294967296 = ((a / 4294967296 : Nat) : Int) := by omega
theorem mulN (a b : Nat) : (a : Int) * (b : Int) = ((a * b : Nat) : Int) := (Int.natCast_mul a b).symm
theorem addN (a b : Nat) : (a : Int) + (b : Int) = ((a + b : Nat) : Int) := (Int.natCast_add a b).symm
theorem wrapN (a : Nat) (ha : a < 18446744073709551616) : IntKind.u64.wrap (a : Int) = (a : Int) := by rw [IntKind.wrap_u64]; omega
theorem wrapM (a : Nat) : IntKind.u64.wrap (a : Int) = ((a % 18446744073709551616 : Nat) : Int) := by rw [IntKind.wrap_u64]; omega

set_option maxHeartbeats 1000000 in
/-- math/bits.Mul64: the library's own text. -/
theorem f46_any (x y : Nat) (hx : x < 18446744073709551616) (hy : y < 18446744073709551616) (w : World) :
    Calls Try.prog 46 #[.int .u64 x, .int .u64 y] w fun e w' => e = .returned (.tuple #[.int .u64 ((x * y / 18446744073709551616 : Nat) : Int), .int .u64 ((x * y % 18446744073709551616 : Nat) : Int)]) ∧ w' = w := by
  obtain ⟨bd, bt, bw, hhi⟩ := Lib.mul64_hi x y hx hy
  have ba := Lib.half_mul_le (a := x / 4294967296) (b := y / 4294967296) (by omega) (by omega)
  have bb := Lib.half_mul_le (a := x / 4294967296) (b := y % 4294967296) (by omega) (by omega)
  have bc := Lib.half_mul_le (a := x % 4294967296) (b := y / 4294967296) (by omega) (by omega)
  have ba' : x / 4294967296 * (y / 4294967296) < 18446744073709551616 := by omega
  have bb' : x / 4294967296 * (y % 4294967296) < 18446744073709551616 := by omega
  have bc' : x % 4294967296 * (y / 4294967296) < 18446744073709551616 := by omega
  have bh1 : x / 4294967296 * (y / 4294967296) + (x / 4294967296 * (y % 4294967296) + x % 4294967296 * (y % 4294967296) / 4294967296) / 4294967296 < 18446744073709551616 := by omega
  have bh : x / 4294967296 * (y / 4294967296) + (x / 4294967296 * (y % 4294967296) + x % 4294967296 * (y % 4294967296) / 4294967296) / 4294967296 + ((x / 4294967296 * (y % 4294967296) + x % 4294967296 * (y % 4294967296) / 4294967296) % 4294967296 + x % 4294967296 * (y / 4294967296)) / 4294967296 < 18446744073709551616 := by omega
  go_enter Try.func46, Try.ntmps46
  go_wp2
  simp only [maskN x hx, maskN y hy, divN, mulN, addN, wrapN _ bd, wrapN _ bb', wrapN _ bt, maskN _ bt, wrapN _ bc', wrapN _ bw, wrapN _ ba', wrapN _ bh1, wrapN _ bh, wrapM (x * y)]
  rw [hhi]
  go_ret2
  exact ⟨rfl, rfl⟩

/-- mul. -/
theorem f44_any (a b : Nat) (w : World) (ha : a < 2305843009213693951) (hb : b < 2305843009213693951) : Calls Try.prog 44 #[.int .u64 a, .int .u64 b] w fun e w' => e = .returned (.int .u64 ((a * b % 2305843009213693951 : Nat) : Int)) ∧ w' = w := by
  obtain ⟨hp, hs⟩ := fold_lt a b ha hb
  have hfm := fold_mod (a * b)
  have h46 := f46_any a b (by omega) (by omega) w
  generalize a * b = p at *
  clear ha hb
  generalize (a : Int) = A at *
  generalize (b : Int) = B at *
  go_enter Try.func44, Try.ntmps44
  go_wp2_with fail
  refine h46.mono ?_
  clear h46
  rintro e w' ⟨rfl, rfl⟩
  obtain ⟨H, hH⟩ : ∃ H : Int, H = ((p / 18446744073709551616 : Nat) : Int) := ⟨_, rfl⟩
  obtain ⟨L, hL⟩ : ∃ L : Int, L = ((p % 18446744073709551616 : Nat) : Int) := ⟨_, rfl⟩
  rw [← hH, ← hL]
  have H0 : 0 ≤ H := by omega
  have H1 : H < 288230376151711744 := by omega
  have L0 : 0 ≤ L := by omega
  have hand := and_M L L0 (by omega)
  have hor : bits .or .u64 (H * 8) (L / 2305843009213693952) = H * 8 + L / 2305843009213693952 := bits_join .u64 64 (by decide) wraps_u64 3 (H * 8) (L / 2305843009213693952) (by omega) (by omega) (by omega) (by omega) (by omega) (by omega)
  have s0 : 0 ≤ L % 2305843009213693952 + (H * 8 + L / 2305843009213693952) := by omega
  have s1 : L % 2305843009213693952 + (H * 8 + L / 2305843009213693952) < 4611686018427387902 := by omega
  have HF : Hid ((L % 2305843009213693952 + (H * 8 + L / 2305843009213693952)) % 2305843009213693951 = ((p % 2305843009213693951 : Nat) : Int)) := by unfold Hid; omega
  have u0 : 0 ≤ L % 2305843009213693952 := by omega
  have u1 : L % 2305843009213693952 < 2305843009213693952 := by omega
  have v0 : 0 ≤ L / 2305843009213693952 := by omega
  have v1 : L / 2305843009213693952 < 8 := by omega
  clear hH hL hfm hs hp
  go_wp2_with fail
  refine (f43_any _ _ s0 s1).mono ?_
  rintro e w2 ⟨rfl, rfl⟩
  go_wp2
  go_ret
  exact ⟨congrArg (fun n : Int => Ending.returned (.int .u64 n)) HF.out, rfl⟩

/-- mul, over integers. -/
theorem f44_int (a b : Int) (w : World) (a0 : 0 ≤ a) (a1 : a < 2305843009213693951) (b0 : 0 ≤ b) (b1 : b < 2305843009213693951) : Calls Try.prog 44 #[.int .u64 a, .int .u64 b] w fun e w' => e = .returned (.int .u64 (a * b % 2305843009213693951)) ∧ w' = w := by
  obtain ⟨x, rfl⟩ := Int.eq_ofNat_of_zero_le a0
  obtain ⟨y, rfl⟩ := Int.eq_ofNat_of_zero_le b0
  have h := f44_any x y w (by omega) (by omega)
  have e : ((x * y % 2305843009213693951 : Nat) : Int) = (x : Int) * (y : Int) % 2305843009213693951 := by rw [← Int.natCast_mul]; omega
  rw [e] at h
  exact h

set_option maxHeartbeats 1000000 in
/-- zzMulMod. -/
theorem f10_any (a b : Int) (w : World) (a0 : 0 ≤ a) (b0 : 0 ≤ b) : Calls Try.prog 10 #[.int .u64 a, .int .u64 b] w fun e w' => e = .returned (.int .u64 (a * b % 2305843009213693951)) ∧ w' = w := by
  have x0 : 0 ≤ a % 2305843009213693951 := by omega
  have x1 : a % 2305843009213693951 < 2305843009213693951 := by omega
  have y0 : 0 ≤ b % 2305843009213693951 := by omega
  have y1 : b % 2305843009213693951 < 2305843009213693951 := by omega
  have HX : Hid (∀ r : Int, r = a % 2305843009213693951 * (b % 2305843009213693951) % 2305843009213693951 → r = a * b % 2305843009213693951) := fun r h => h.trans (Int.mul_emod a b _).symm
  go_enter Try.func10, Try.ntmps10
  go_wp2
  go_loop [0, 1, 5] (fun va vb vr => ∃ x y r : Int, 0 ≤ x ∧ x < 2305843009213693951 ∧ 0 ≤ y ∧ y < 2305843009213693951 ∧ 0 ≤ r ∧ r < 2305843009213693951 ∧ va = .int .u64 x ∧ vb = .int .u64 y ∧ vr = .int .u64 r ∧ Hid ((r + x * y) % 2305843009213693951 = a % 2305843009213693951 * (b % 2305843009213693951) % 2305843009213693951)) (fun _ vb _ => (intOf vb).toNat)
  case atStart => exact ⟨_, _, 0, x0, x1, y0, y1, by omega, by omega, rfl, rfl, rfl, by unfold Hid; rw [Int.zero_add]⟩
  case round =>
    clear x0 x1 y0 y1
    obtain ⟨x, y, r, x0, x1, y0, y1, r0, r1, rfl, rfl, rfl, HR⟩ := hrel
    by_cases hy : 0 < y
    · have hand := and_one_u64 y y0 (by omega)
      have q0 : 0 ≤ (r + x) % 2305843009213693951 := by omega
      have q1 : (r + x) % 2305843009213693951 < 2305843009213693951 := by omega
      have q2 : 0 ≤ (x + x) % 2305843009213693951 := by omega
      have q3 : (x + x) % 2305843009213693951 < 2305843009213693951 := by omega
      have q4 : 0 ≤ y / 2 := by omega
      have q5 : y / 2 < 2305843009213693951 := by omega
      by_cases hodd : y % 2 = 1
      · have ho : (y % 2 == 1) = true := by simp [hodd]
        have HR2 : Hid (((r + x) % 2305843009213693951 + (x + x) % 2305843009213693951 * (y / 2)) % 2305843009213693951 = a % 2305843009213693951 * (b % 2305843009213693951) % 2305843009213693951) := (dbl_odd r x y hodd).trans HR.out
        clear hodd HR
        go_wp2_with fail
        refine (f11_any r x w r0 x0 (by omega)).mono ?_
        rintro e w' ⟨rfl, rfl⟩
        go_wp2_with fail
        refine (f11_any x x _ x0 x0 (by omega)).mono ?_
        rintro e w' ⟨rfl, rfl⟩
        go_wp2_with fail
        go_round
        case rel => exact ⟨_, _, _, q2, q3, q4, q5, q0, q1, rfl, rfl, rfl, HR2⟩
        case measure => simp [intOf]; omega
      · have ho : (y % 2 == 1) = false := by simp [hodd]
        have HR2 : Hid ((r + (x + x) % 2305843009213693951 * (y / 2)) % 2305843009213693951 = a % 2305843009213693951 * (b % 2305843009213693951) % 2305843009213693951) := (dbl_even r x y r0 r1 (by omega)).trans HR.out
        clear hodd HR
        go_wp2_with fail
        refine (f11_any x x _ x0 x0 (by omega)).mono ?_
        rintro e w' ⟨rfl, rfl⟩
        go_wp2_with fail
        go_round
        case rel => exact ⟨_, _, _, q2, q3, q4, q5, r0, r1, rfl, rfl, rfl, HR2⟩
        case measure => simp [intOf]; omega
    · have HF : Hid (r = a * b % 2305843009213693951) := HX.out r (by
        have h := HR.out
        have hy0 : y = 0 := by omega
        rw [hy0, Int.mul_zero, Int.add_zero, Int.emod_eq_of_lt r0 r1] at h
        exact h)
      clear HR HX
      go_wp2_with fail
      go_ret
      exact ⟨congrArg (fun n : Int => Ending.returned (.int .u64 n)) HF.out, rfl⟩

set_option maxHeartbeats 1000000 in
/-- characteristic. -/
theorem f39_any (a : Option Addr) (n cap : Nat) (E : Nat → Int) (z : Int) (w : World) (h : Row w a n fun i => .int .u64 (E i)) (hn : n ≤ 1048576) (hE : ∀ i, i < n → 0 ≤ E i ∧ E i < 2305843009213693951) (z0 : 0 ≤ z) (z1 : z < 2305843009213693951) :
    Calls Try.prog 39 #[.slice a n cap, .int .u64 z] w fun e w' => e = .returned (.int .u64 (prodTo E z n)) ∧ w' = w := by
  go_enter Try.func39, Try.ntmps39
  go_wp2
  go_loop [5, 10] (fun vp vi => ∃ k : Nat, k ≤ n ∧ vi = .int .i64 k ∧ vp = .int .u64 (prodTo E z k)) (fun _ vi => n - (intOf vi).toNat)
  case atStart => exact ⟨0, Nat.zero_le _, rfl, rfl⟩
  case round =>
    obtain ⟨k, hk, rfl, rfl⟩ := hrel
    by_cases hlt : k < n
    · obtain ⟨b, off, rfl, hbl, hc⟩ := h.at hlt
      have hck := hc k hlt
      obtain ⟨e0, e1⟩ := hE k hlt
      obtain ⟨p0, p1⟩ := prodTo_bd E z k
      have HS : Hid (prodTo E z (k + 1) = prodTo E z k * ((z + 2305843009213693951 - E k) % 2305843009213693951) % 2305843009213693951) := rfl
      have q0 : 0 ≤ (z + 2305843009213693951 - E k) % 2305843009213693951 := by omega
      have q1 : (z + 2305843009213693951 - E k) % 2305843009213693951 < 2305843009213693951 := by omega
      clear hc hE h
      generalize E k = ek at *
      generalize prodTo E z k = pk at *
      go_wp2_with fail
      refine (f45_any z ek w z0 z1 e0 e1).mono ?_
      rintro e w' ⟨rfl, rfl⟩
      go_wp2_with fail
      refine (f44_int pk _ _ p0 p1 q0 q1).mono ?_
      rintro e w' ⟨rfl, rfl⟩
      go_wp2_with fail
      go_round
      case rel => exact ⟨k + 1, by omega, by go_num, by rw [HS.out]⟩
      case measure => simp [intOf]; omega
    · have hkl : n = k := by omega
      subst hkl
      go_wp2_with fail
      go_ret
      exact ⟨rfl, rfl⟩

/-- zzBytes_FnHolding..: it answers; yes only where the slice is short. -/
theorem f7_any (a : Option Addr) (l c : Nat) (w : World) (m : l ≤ 9223372036854775807) : Calls Try.prog 7 #[.slice a l c] w fun e w' => RetB e (fun b => b = true → l ≤ 1048576) ∧ w' = w := by
  go_enter Try.func7, Try.ntmps7
  go_wp2
  · go_ret
    exact ⟨.mk _ rfl (by intro h; cases h), rfl⟩
  · go_ret
    exact ⟨.mk _ rfl (fun _ => by omega), rfl⟩

end Go.Proofs.Qxb6003726a
