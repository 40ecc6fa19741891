import Derived.Test.Qxb6003726aVouchMid
import Derived.Test.Qxb6003726aBytes2
namespace Go.Proofs.Qxb6003726a
open Go.RowKit

set_option maxHeartbeats 4000000 in
set_option maxRecDepth 100000 in
theorem f5_any (a0 a1 a2 a3 : Option Addr) (l0 l1 l2 l3 c0 c1 c2 c3 : Nat) (S Z : Nat → ByteArray) (P0 V : Nat → Nat) (w : World) (h0 : Row w a0 l0 fun i => .int .u8 (P0 i)) (h1 : Row w a1 l1 fun i => .string (S i)) (h2 : Row w a2 l2 fun i => .string (Z i)) (h3 : Row w a3 l3 fun i => .int .u64 (V i))
    (m0 : l0 ≤ 9223372036854775807) (m1 : l1 ≤ 9223372036854775807) (m2 : l2 ≤ 9223372036854775807) (m3 : l3 ≤ 9223372036854775807) (s1 : ∀ i, i < l1 → (S i).size ≤ 9223372036854775807) (s2 : ∀ i, i < l2 → (Z i).size ≤ 9223372036854775807)
    (HV : Hid (∀ i, i < l3 → V i < 18446744073709551616)) :
    Calls Try.prog 5 #[.slice a0 l0 c0, .slice a1 l1 c1, .slice a2 l2 c2, .slice a3 l3 c3] w (Yes w) := by
  go_enter Try.func5, Try.ntmps5
  go_wp2_with fail
  refine (f21_any a0 a1 a2 a3 l0 l1 l2 l3 c0 c1 c2 c3 S Z w h1 h2 m0 m1 m2 m3 s1 s2).mono ?_
  rintro e w' ⟨⟨b, rfl, hb⟩, rfl⟩
  cases b with
  | false =>
    go_wp2
    go_ret
    exact ⟨rfl, Below.refl _ _⟩
  | true =>
    obtain ⟨⟨m1', s1'⟩, ⟨m2', s2'⟩, m0', m3'⟩ := hb rfl
    clear hb m0 m1 m2 m3 s1 s2
    go_wp2_with fail
    refine (f13_any a1 l1 c1 S _ h1 m1' s1').mono ?_
    rintro e w' ⟨⟨n1, rfl⟩, rfl⟩
    go_wp2_with fail
    refine (f13_any a2 l2 c2 Z _ h2 m2' s2').mono ?_
    rintro e w' ⟨⟨n2, rfl⟩, rfl⟩
    by_cases e1 : 4096 < l1
    · go_wp2_with fail
      all_goals (go_ret; exact ⟨rfl, Below.refl _ _⟩)
    by_cases e3 : l1 = l2
    case neg =>
      have e3' : ((l1 : Int) != (l2 : Int)) = true := by rw [bne_iff_ne]; omega
      go_wp2_with fail
      all_goals (go_ret; exact ⟨rfl, Below.refl _ _⟩)
    by_cases e4 : l1 = l3
    case neg =>
      have e4' : ((l1 : Int) != (l3 : Int)) = true := by rw [bne_iff_ne]; omega
      subst e3
      go_wp2_with fail
      all_goals (go_ret; exact ⟨rfl, Below.refl _ _⟩)
    subst e3 e4
    clear m2' m3'
    have heq := fun w => run_neq_slice_nil_any (P := Try.prog) w 30 5 a0 l0 c0 0 0 Try.underlying30
    cases a0 with
    | none =>
      go_upto_region 7 with fail
      · go_ret
        exact ⟨rfl, Below.refl _ _⟩
      rename_i K1 hK1 K2 hK2
      have HK := show Hid _ from hK1
      clear hK1
      go_wp2_with fail
      refine HK.out _ _ ?_
      exact mid5 w' w' none a1 a2 a3 l0 l1 c0 c1 c2 c3 S Z P0 V _ _ _ _ _ _ _ _ _ _ _ _ _ _ _ _ _ _ _ _ _ _ _ _ _ _ _ _ _ _ _ _ _ _ _ _ _ _ _ _ _ _ _ _ _ _ _ _ _ _ _ _ _ _ _ _ _ _ _ _ _ _ _ _ _ _ _ _ _ _ _ _ _ _ _ _ _ _ _ _ _ _ _ _ _ _ _ _ _ _ _ _ _ _ _ _ _ _ _ _ _ _ _ _ _ _ _ _ _ _ _ _ _ _ _ _ _ _ _ _ _ _ _ _ _ _ _ _ _ _ _ _ _ _ _ _ _ _ _ _ _ _ _ _ _ _ _ _ _ _ _ _ _ _ _ _ _ _ _ _ _ _ _ _ _ _ _ _ _ _ _ _ _ _ _ _ _ _ _ _ _ _ _ _ _ _ _ _ _ _ _ _ _ _ _ _ _ _ _ _ _ _ _ _ _ _ _ _ _ _ _ _ _ _ _ _ _ _ _ _ _ _ _ _ _ _ _ _ _ _ _ _ _ _ _ _ _ _ _ _ _ _ _ _ _ _ _ _ _ _ _ _ _ _ _ _ h0 h1 h2 h3 m0' (by omega) s1' s2' HV (Below.refl _ _)
    | some x =>
      obtain ⟨w1, W8, hmk, hcp, hblk, hbel8, _⟩ := clone_runs 30 5 Try.underlying30 Try.info5 (by omega) (some x) l0 c0 (fun i => .int .u8 (P0 i)) w' h0 (fun _ _ => rfl) (by omega)
      have HB := show Hid _ from hblk
      clear hblk
      go_upto_region 7 with fail
      · go_ret
        exact ⟨rfl, Below.refl _ _⟩
      rename_i K1 hK1 K2 hK2
      have HK := show Hid _ from hK1
      clear hK1
      go_wp2_with fail
      refine HK.out _ _ ?_
      exact mid5 w' W8 (some ⟨w'.heap.size, 0, none⟩) a1 a2 a3 l0 l1 l0 c1 c2 c3 S Z P0 V _ _ _ _ _ _ _ _ _ _ _ _ _ _ _ _ _ _ _ _ _ _ _ _ _ _ _ _ _ _ _ _ _ _ _ _ _ _ _ _ _ _ _ _ _ _ _ _ _ _ _ _ _ _ _ _ _ _ _ _ _ _ _ _ _ _ _ _ _ _ _ _ _ _ _ _ _ _ _ _ _ _ _ _ _ _ _ _ _ _ _ _ _ _ _ _ _ _ _ _ _ _ _ _ _ _ _ _ _ _ _ _ _ _ _ _ _ _ _ _ _ _ _ _ _ _ _ _ _ _ _ _ _ _ _ _ _ _ _ _ _ _ _ _ _ _ _ _ _ _ _ _ _ _ _ _ _ _ _ _ _ _ _ _ _ _ _ _ _ _ _ _ _ _ _ _ _ _ _ _ _ _ _ _ _ _ _ _ _ _ _ _ _ _ _ _ _ _ _ _ _ _ _ _ _ _ _ _ _ _ _ _ _ _ _ _ _ _ _ _ _ _ _ _ _ _ _ _ _ _ _ _ _ _ _ _ _ _ _ _ _ _ _ _ _ _ _ _ _ _ _ _ _ _ _ _ (row_of_block HB.out) (h1.below hbel8 (Nat.le_refl _)) (h2.below hbel8 (Nat.le_refl _)) (h3.below hbel8 (Nat.le_refl _)) m0' (by omega) s1' s2' HV hbel8

end Go.Proofs.Qxb6003726a
