import Derived.Test.Qxb6003726aHolding
namespace Go.Proofs.Qxb6003726a
open Go.RowKit

/-- The end of the law: it returned true and nothing old has turned. -/
def Held (w : World) (e : Ending) (w' : World) : Prop := e = .returned (.bool true) ∧ Below w.heap.size w w'

theorem f9_small (a : Option Addr) (n c : Nat) (w : World) (hn : n ≤ 13) :
    Calls Try.prog 9 #[.slice a n c] w fun e w' => e = .returned (.tuple #[.int .u64 n, .slice a n c, .slice none 0 0]) ∧ Below w.heap.size w w' := by
  go_enter Try.func9, Try.ntmps9
  go_wp2_with fail
  refine (f32_small a n c w hn).mono ?_
  rintro e w1 ⟨rfl, hb⟩
  go_wp2_with fail
  go_quiet (fail)
  go_wp2
  go_ret3
  exact ⟨rfl, below_drewN (hb.alloc hb.size _) _⟩

/-- What ZZHoldingOf hands back of a large set. -/
def Told3 (H : Nat → Int) (n : Nat) (w : World) (e : Ending) (w' : World) : Prop :=
  ∃ gs, e = .returned (.tuple #[.int .u64 n, .slice none 0 0, .slice (some ⟨gs, 0, none⟩) 13 13]) ∧ Row w' (some ⟨gs, 0, none⟩) 13 (fun j => .int .u64 (sketchAt H n j)) ∧ Below w.heap.size w w'

theorem f9_large (a : Option Addr) (n c : Nat) (H : Nat → Int) (w : World) (h : Row w a n fun i => .int .u64 (H i)) (hn0 : 13 < n) (hn : n ≤ 2048) (hH : ∀ i, i < n → 0 ≤ H i ∧ Hid (H i < 18446744073709551616)) :
    Calls Try.prog 9 #[.slice a n c] w (Told3 H n w) := by
  have h32 := f32_large a n c H w h hn0 hn hH
  clear h hH
  go_enter Try.func9, Try.ntmps9
  go_wp2_with fail
  refine h32.mono ?_
  clear h32
  rintro e w1 ⟨gs, rfl, hr, hb⟩
  go_wp2_with fail
  go_quiet (fail)
  go_wp2
  go_ret3
  have hb2 : Below w1.heap.size w1 (w1.alloc (.cells #[.int .u64 n, .slice none 0 0, .slice (some ⟨gs, 0, none⟩) 13 13] 69)) := (Below.refl _ _).alloc (Nat.le_refl _) _
  exact ⟨gs, rfl, (hr.below hb2 (Nat.le_refl _)).drewN _, below_drewN (hb.trans (hb2.mono hb.size)) _⟩

set_option maxHeartbeats 2000000 in
set_option maxRecDepth 100000 in
theorem f3_any (a : Option Addr) (n c : Nat) (H : Nat → Int) (w : World) (h : Row w a n fun i => .int .u64 (H i)) (m : n ≤ 9223372036854775807) (hH : ∀ i, i < n → 0 ≤ H i ∧ Hid (H i < 18446744073709551616)) :
    Calls Try.prog 3 #[.slice a n c] w (Held w) := by
  go_enter Try.func3, Try.ntmps3
  go_wp2_with fail
  refine (f7_any a n c w m).mono ?_
  rintro e w' ⟨⟨b, rfl, hb⟩, rfl⟩
  cases b with
  | false =>
    go_wp2
    go_ret
    exact ⟨rfl, Below.refl _ _⟩
  | true =>
  have m' := hb rfl
  clear hb m
  by_cases hbig : 2048 < n
  · go_wp2_with fail
    go_ret
    exact ⟨rfl, Below.refl _ _⟩
  have hd2 : decide ((2048 : Int) < (n : Int)) = false := by simp; omega
  go_wp2_with fail
  refine (f8_any a n c H w' h m').mono ?_
  rintro e W1 ⟨a', c', rfl, r, bel⟩
  clear h
  by_cases hsm : n ≤ 13
  · have hd : decide ((n : Int) ≤ 13) = true := by simp; omega
    have hq1 := fun w => Lib.run_eql_slice_nil (P := Try.prog) w 22 25 a' n c' 0 0 Try.underlying22
    have hq2 := fun w => run_neq_slice_nil_any (P := Try.prog) w 22 25 none 0 0 0 0 Try.underlying22
    go_wp2_with fail
    refine (f9_small a' n c' W1 hsm).mono ?_
    rintro e W2 ⟨rfl, bel2⟩
    replace r := r.below bel2 (Nat.le_refl _)
    replace bel := bel.trans (bel2.mono bel.size)
    clear bel2
    go_wp2_with fail
    go_loopw [7] (fun vi wr => ∃ k : Nat, k ≤ n ∧ vi = .int .i64 k ∧ ∃ q, wr = W2.drewN q) (fun vi _ => n - (intOf vi).toNat)
    case atStart => exact ⟨0, Nat.zero_le _, rfl, 0, rfl⟩
    case round =>
      obtain ⟨k, hk, rfl, q, rfl⟩ := hrel
      by_cases hlt : k < n
      · obtain ⟨b, off, rfl, hbl, hc⟩ := r.at hlt
        have hck := hc k hlt
        have b1 : (0 : Int) ≤ (k : Int) := by omega
        have b2 : (k : Int) < (n : Int) := by omega
        clear hc r
        go_wp2_with fail
        go_quiet (fail)
        go_wp2_with fail
        go_roundw
        case rel => exact ⟨k + 1, by omega, by go_num, _, rfl⟩
        case measure => simp [intOf]; omega
      · go_wp2_with fail
        go_ret
        exact ⟨rfl, below_drewN bel _⟩
  · have hd : decide ((n : Int) ≤ 13) = false := by simp; omega
    have hq2 := fun w => run_neq_slice_nil_any (P := Try.prog) w 22 25 none 0 0 0 0 Try.underlying22
    go_wp2_with fail
    refine (f9_large a' n c' H W1 r (by omega) (by omega) hH).mono ?_
    rintro e W2 ⟨gs, rfl, rs, bel2⟩
    replace r := r.below bel2 (Nat.le_refl _)
    replace bel := bel.trans (bel2.mono bel.size)
    clear bel2
    go_wp2_with fail
    go_loopw [8] (fun vj wr => ∃ j : Nat, j ≤ 13 ∧ vj = .int .i64 j ∧ wr = W2) (fun vj _ => 13 - (intOf vj).toNat)
    case atStart => exact ⟨0, Nat.zero_le _, rfl, rfl⟩
    case round =>
      obtain ⟨j, hj, rfl, hw⟩ := hrel
      subst wr
      by_cases hlt : j < 13
      · have b1 : (0 : Int) ≤ (j : Int) := by omega
        have b2 : (j : Int) < 13 := by omega
        go_wp2_with fail
        go_loopw [10, 11] (fun vp vi wr => ∃ k : Nat, k ≤ n ∧ vi = .int .i64 k ∧ vp = .int .u64 (prodTo (fun i => H i % 2305843009213693951) (2305843009213693950 - (j : Int)) k) ∧ wr = W2) (fun _ vi _ => n - (intOf vi).toNat)
        case atStart => exact ⟨0, Nat.zero_le _, rfl, rfl, rfl⟩
        case round =>
          obtain ⟨k, hk, rfl, rfl, hw⟩ := hrel
          subst wr
          by_cases hkn : k < n
          · obtain ⟨b, off, rfl, hbl, hc⟩ := r.at hkn
            have hck := hc k hkn
            obtain ⟨hk0, HK1⟩ := hH k hkn
            have b3 : (0 : Int) ≤ (k : Int) := by omega
            have b4 : (k : Int) < (n : Int) := by omega
            obtain ⟨p0, p1⟩ := prodTo_bd (fun i => H i % 2305843009213693951) (2305843009213693950 - (j : Int)) k
            have HS : Hid (prodTo (fun i => H i % 2305843009213693951) (2305843009213693950 - (j : Int)) (k + 1) = prodTo (fun i => H i % 2305843009213693951) (2305843009213693950 - (j : Int)) k * ((2305843009213693950 - (j : Int) + (2305843009213693951 - H k % 2305843009213693951)) % 2305843009213693951) % 2305843009213693951) := by
              unfold Hid
              show _ * ((2305843009213693950 - (j : Int) + 2305843009213693951 - H k % 2305843009213693951) % 2305843009213693951) % 2305843009213693951 = _
              rw [Int.add_sub_assoc]
            have x0 : 0 ≤ H k % 2305843009213693951 := by omega
            have x1 : H k % 2305843009213693951 < 2305843009213693951 := by omega
            have y0 : 0 ≤ (2305843009213693950 - (j : Int) + (2305843009213693951 - H k % 2305843009213693951)) % 2305843009213693951 := by omega
            clear hc r rs hH
            generalize prodTo (fun i => H i % 2305843009213693951) (2305843009213693950 - (j : Int)) k = pk at *
            go_wp2_with fail
            refine (f11_any _ _ W2 (by omega) (by omega) (by omega)).mono ?_
            rintro e w2 ⟨rfl, rfl⟩
            go_wp2_with fail
            refine (f10_any pk _ w2 p0 y0).mono ?_
            rintro e w3 ⟨rfl, rfl⟩
            go_wp2_with fail
            go_roundw
            case rel => exact ⟨k + 1, by omega, by go_num, by rw [HS.out], trivial⟩
            case measure => simp [intOf]; omega
          · have hkl : n = k := by omega
            subst hkl
            obtain ⟨g2, o2, hg2, _, hs⟩ := rs.at hlt
            have hsj := hs j hlt
            obtain ⟨rfl, rfl⟩ : gs = g2 ∧ 0 = o2 := by simpa using hg2
            rw [Nat.zero_add] at hsj
            have hcmp : (sketchAt H n j != prodTo (fun i => H i % 2305843009213693951) (2305843009213693950 - (j : Int)) n) = false := by simp [sketchAt]
            clear hs hg2 hkn hk
            go_wp2_with fail
            go_roundw
            case rel => exact ⟨j + 1, by omega, by go_num, trivial⟩
            case measure => simp [intOf]; omega
      · go_wp2_with fail
        go_ret
        exact ⟨rfl, bel⟩

end Go.Proofs.Qxb6003726a
