import Derived.Test.Qxb6003726aBase
namespace Go.Proofs.Qxb6003726a
open Go.RowKit

set_option maxHeartbeats 1000000 in
theorem f21_any (a0 a1 a2 a3 : Option Addr) (l0 l1 l2 l3 c0 c1 c2 c3 : Nat) (S1 S2 : Nat → ByteArray) (w : World) (h1 : Row w a1 l1 fun i => .string (S1 i)) (h2 : Row w a2 l2 fun i => .string (S2 i))
    (m0 : l0 ≤ 9223372036854775807) (m1 : l1 ≤ 9223372036854775807) (m2 : l2 ≤ 9223372036854775807) (m3 : l3 ≤ 9223372036854775807) (s1 : ∀ i, i < l1 → (S1 i).size ≤ 9223372036854775807) (s2 : ∀ i, i < l2 → (S2 i).size ≤ 9223372036854775807) :
    Calls Try.prog 21 #[.slice a0 l0 c0, .slice a1 l1 c1, .slice a2 l2 c2, .slice a3 l3 c3] w fun e w' =>
      RetB e (fun b => b = true → (l1 ≤ 1048576 ∧ ∀ i, i < l1 → (S1 i).size ≤ 1048576) ∧ (l2 ≤ 1048576 ∧ ∀ i, i < l2 → (S2 i).size ≤ 1048576) ∧ l0 ≤ 1048576 ∧ l3 ≤ 1048576) ∧ w' = w := by
  go_enter Try.func21, Try.ntmps21
  go_wp2
  all_goals first | (go_ret; exact ⟨.mk _ rfl (by intro h; cases h), rfl⟩) | skip
  go_loop [9, 10] (fun t i => ∃ k : Nat, k ≤ l1 ∧ i = .int .i64 k ∧ (∀ i, i < k → (S1 i).size ≤ 1048576) ∧ ∃ n : Int, 0 ≤ n ∧ n ≤ 1048576 ∧ t = .int .i64 n) (fun _ i => l1 - (intOf i).toNat)
  case atStart => exact ⟨0, Nat.zero_le _, rfl, fun i hi => by omega, _, by omega, by omega, rfl⟩
  case round =>
    obtain ⟨k, hk, rfl, hall, n, hn0, hn1, rfl⟩ := hrel
    by_cases hlt : k < l1
    · obtain ⟨b, off, rfl, hbl, hc⟩ := h1.at hlt
      have hck := hc k hlt
      have hsk := s1 k hlt
      clear hc h1
      go_wp2
      · go_ret
        exact ⟨.mk _ rfl (by intro h; cases h), rfl⟩
      · go_ret
        exact ⟨.mk _ rfl (by intro h; cases h), rfl⟩
      · go_round
        case rel => 
          refine ⟨k + 1, by omega, by go_num, ?_, _, by omega, by omega, rfl⟩
          intro i hi
          rcases Nat.lt_or_ge i k with h | h
          · exact hall i h
          · obtain rfl : i = k := by omega
            omega
        case measure => simp [intOf]; omega
    · have HA : Hid (∀ i, i < l1 → (S1 i).size ≤ 1048576) := fun i hi => hall i (by omega)
      clear hall s1 h1
      go_wp2
      all_goals first | (go_ret; exact ⟨.mk _ rfl (by intro h; cases h), rfl⟩) | skip
      go_loop [9, 11] (fun t i => ∃ k : Nat, k ≤ l2 ∧ i = .int .i64 k ∧ (∀ i, i < k → (S2 i).size ≤ 1048576) ∧ ∃ n : Int, 0 ≤ n ∧ n ≤ 1048576 ∧ t = .int .i64 n) (fun _ i => l2 - (intOf i).toNat)
      case atStart => exact ⟨0, Nat.zero_le _, rfl, fun i hi => by omega, _, by omega, by omega, rfl⟩
      case round =>
        obtain ⟨q, hq, rfl, hall, n, hn0, hn1, rfl⟩ := hrel
        by_cases hlt : q < l2
        · obtain ⟨b, off, rfl, hbl, hc⟩ := h2.at hlt
          have hck := hc q hlt
          have hsk := s2 q hlt
          clear hc h2
          go_wp2
          · go_ret
            exact ⟨.mk _ rfl (by intro h; cases h), rfl⟩
          · go_ret
            exact ⟨.mk _ rfl (by intro h; cases h), rfl⟩
          · go_round
            case rel => 
              refine ⟨q + 1, by omega, by go_num, ?_, _, by omega, by omega, rfl⟩
              intro i hi
              rcases Nat.lt_or_ge i q with h | h
              · exact hall i h
              · obtain rfl : i = q := by omega
                omega
            case measure => simp [intOf]; omega
        · have HB : Hid (∀ i, i < l2 → (S2 i).size ≤ 1048576) := fun i hi => hall i (by omega)
          clear hall s2 h2
          go_wp2
          · go_ret
            exact ⟨.mk _ rfl (by intro h; cases h), rfl⟩
          · go_ret
            exact ⟨.mk _ rfl (by intro h; cases h), rfl⟩
          · go_ret
            exact ⟨.mk _ rfl (fun _ => ⟨⟨by omega, HA.out⟩, ⟨by omega, HB.out⟩, by omega, by omega⟩), rfl⟩


end Go.Proofs.Qxb6003726a
