import Derived.Test.Qxb6003726aRows
import Derived.WalkKit
import Derived.WalkSpells
import Derived.WalkLawsBesides
import Derived.Deep.QuietTactic
import Derived.BigQuiet
import Derived.Laws.CopyOwn
namespace Go.Proofs.Qxb6003726a
open Go.RowKit

/-- A slice of one-cell elements, as a walk reads it: empty, or its first 'len' cells lie at a known place. -/
def Row (w : World) (a : Option Addr) (len : Nat) (C : Nat → Value) : Prop :=
  len = 0 ∨ ∃ b off, a = some ⟨b, off, none⟩ ∧ b < w.heap.size ∧ ∀ i, i < len → w.cell? ⟨b, off + i, none⟩ = some (C i)

theorem Row.at {w : World} {a : Option Addr} {len : Nat} {C : Nat → Value} (h : Row w a len C) {i : Nat} (hi : i < len) :
    ∃ b off, a = some ⟨b, off, none⟩ ∧ b < w.heap.size ∧ ∀ i, i < len → w.cell? ⟨b, off + i, none⟩ = some (C i) := by
  rcases h with h | h
  · omega
  · exact h

theorem Row.below {w w' : World} {a : Option Addr} {len : Nat} {C : Nat → Value} (h : Row w a len C) {B : Nat} (hb : Below B w w') (hB : w.heap.size ≤ B) : Row w' a len C := by
  rcases h with h | ⟨b, off, rfl, hlt, hc⟩
  · exact .inl h
  · exact .inr ⟨b, off, rfl, Nat.lt_of_lt_of_le hlt hb.size, fun i hi => (hb.cell (by exact Nat.lt_of_lt_of_le hlt hB)).trans (hc i hi)⟩

theorem Row.drewN {w : World} {a : Option Addr} {len : Nat} {C : Nat → Value} (h : Row w a len C) (n : Nat) : Row (w.drewN n) a len C := by
  rcases h with h | ⟨b, off, rfl, hlt, hc⟩
  · exact .inl h
  · exact .inr ⟨b, off, rfl, by simpa using hlt, fun i hi => by simpa using hc i hi⟩

/-- The call returned a bool of which p holds. -/
def RetB (e : Ending) (p : Bool → Prop) : Prop := ∃ b, e = .returned (.bool b) ∧ p b
theorem RetB.mk {e : Ending} {p : Bool → Prop} (b : Bool) (h : e = .returned (.bool b)) (hp : p b) : RetB e p := ⟨b, h, hp⟩

set_option maxHeartbeats 400000 in
/-- zzBytes_rootg1 returns some number. -/
theorem f13_any (a : Option Addr) (len cap : Nat) (S : Nat → ByteArray) (w : World) (h : Row w a len fun i => .string (S i)) (hm : len ≤ 1048576) (hs : ∀ i, i < len → (S i).size ≤ 1048576) :
    Calls Try.prog 13 #[.slice a len cap] w fun e w' => (∃ n : Int, e = .returned (.int .i64 n)) ∧ w' = w := by
  go_enter Try.func13, Try.ntmps13
  go_wp2
  go_loop [3, 4] (fun t i => ∃ k : Nat, k ≤ len ∧ i = .int .i64 k ∧ ∃ n : Int, 0 ≤ n ∧ n ≤ 2097152 ∧ t = .int .i64 n) (fun _ i => len - (intOf i).toNat)
  case atStart => exact ⟨0, Nat.zero_le _, rfl, 0, by omega, by omega, rfl⟩
  case round =>
    obtain ⟨k, hk, rfl, n, hn0, hn1, rfl⟩ := hrel
    by_cases hlt : k < len
    · obtain ⟨b, off, rfl, hbl, hc⟩ := h.at hlt
      have hck := hc k hlt
      have hsk := hs k hlt
      clear hc hs h
      go_wp2
      · go_ret
        exact ⟨⟨_, rfl⟩, rfl⟩
      · go_round
        case rel => exact ⟨k + 1, by omega, by go_num, _, by omega, by omega, rfl⟩
        case measure => simp [intOf]; omega
    · go_wp2
      go_ret
      exact ⟨⟨_, rfl⟩, rfl⟩


set_option maxHeartbeats 400000 in
theorem f14_any (a : Option Addr) (len cap : Nat) (S : Nat → ByteArray) (w : World) (h : Row w a len fun i => .string (S i)) (hm : len ≤ 1048576) :
    Calls Try.prog 14 #[.slice a len cap] w fun e w' => RetB e (fun b => b = true → ∀ i, i + 1 < len → Op.bytesLess (S i).toList (S (i + 1)).toList = true) ∧ ∃ n, w' = w.drewN n := by
  go_enter Try.func14, Try.ntmps14
  go_wp2
  go_loopw [3] (fun i wr => ∃ q : Nat, (q < len ∨ q = 0) ∧ i = .int .i64 ((q : Int) + 1) ∧ (∀ i, i < q → Op.bytesLess (S i).toList (S (i + 1)).toList = true) ∧ ∃ n, wr = w.drewN n) (fun i _ => len + 1 - (intOf i).toNat)
  case atStart => exact ⟨0, .inr rfl, rfl, fun i hi => by omega, 0, rfl⟩
  case round =>
    obtain ⟨q, hk, rfl, hall, n, rfl⟩ := hrel
    have hk' : q ≤ 1048577 := by omega
    by_cases hlt : q + 1 < len
    · obtain ⟨b, off, rfl, hbl, hc⟩ := h.at hlt
      have hck := hc (q + 1) hlt
      have hck1 := hc q (by omega)
      have b1 : (q : Int) + 1 < (len : Int) := by omega
      clear hc h hk
      go_wp2
      go_quiet (fail)
      go_wp2
      · go_ret
        exact ⟨.mk _ rfl (by intro h; cases h), n + nq, by simp⟩
      · have hbl2 : Op.bytesLess (S q).toList (S (q + 1)).toList = true := by simp_all
        go_roundw
        case rel =>
          refine ⟨q + 1, .inl (by omega), by go_num, ?_, n + nq, by simp⟩
          intro i hi
          rcases Nat.lt_or_ge i q with h | h
          · exact hall i h
          · obtain rfl : i = q := by omega
            exact hbl2
        case measure => simp [intOf]; omega
    · go_wp2
      go_ret
      exact ⟨.mk _ rfl (fun _ i hi => hall i (by omega)), n, rfl⟩


set_option maxHeartbeats 400000 in
theorem f15_any (a : Option Addr) (len cap : Nat) (T : Nat → Int) (w : World) (h : Row w a len fun i => .int .u8 (T i)) (hm : len ≤ 1048576) :
    Calls Try.prog 15 #[.slice a len cap] w fun e w' => RetB e (fun b => b = true → ∀ i, i < len → T i ≠ 0) ∧ w' = w := by
  go_enter Try.func15, Try.ntmps15
  go_wp2
  go_loop [3] (fun i => ∃ q : Nat, q ≤ len ∧ i = .int .i64 q ∧ ∀ i, i < q → T i ≠ 0) (fun i => len - (intOf i).toNat)
  case atStart => exact ⟨0, Nat.zero_le _, rfl, fun i hi => by omega⟩
  case round =>
    obtain ⟨q, hk, rfl, hall⟩ := hrel
    by_cases hlt : q < len
    · obtain ⟨b, off, rfl, hbl, hc⟩ := h.at hlt
      have hck := hc q hlt
      clear hc h
      by_cases hz : T q = 0
      · have hz' : (T q == 0) = true := by simp [hz]
        have HZ : Hid (T q = 0) := hz
        clear hz hall
        go_wp2
        go_ret
        exact ⟨.mk _ rfl (by intro h; cases h), rfl⟩
      · have hz' : (T q == 0) = false := by simp [hz]
        have HZ : Hid (T q ≠ 0) := hz
        have HA : Hid (∀ i, i < q → T i ≠ 0) := hall
        clear hz hall
        go_wp2
        go_round
        case rel =>
          refine ⟨q + 1, by omega, by go_num, ?_⟩
          intro i hi
          rcases Nat.lt_or_ge i q with h | h
          · exact HA.out i h
          · obtain rfl : i = q := by omega
            exact HZ.out
        case measure => simp [intOf]; omega
    · go_wp2
      go_ret
      exact ⟨.mk _ rfl (fun _ i hi => hall i (by omega)), rfl⟩

/-- What zzLookup finds. -/
def Finds (S : Nat → ByteArray) (T : Nat → Int) (n : Nat) (x : ByteArray) (v : Int) : Prop :=
  (∃ i, i < n ∧ (S i).toList = x.toList ∧ v = T i) ∨ ((∀ i, i < n → (S i).toList ≠ x.toList) ∧ v = 0)

set_option maxHeartbeats 400000 in
theorem f20_any (a a' : Option Addr) (len cap cap' : Nat) (S : Nat → ByteArray) (T : Nat → Int) (x : ByteArray) (w : World) (h : Row w a len fun i => .string (S i)) (h' : Row w a' len fun i => .int .u8 (T i)) (hm : len ≤ 1048576) :
    Calls Try.prog 20 #[.slice a len cap, .slice a' len cap', .string x] w fun e w' => ∃ v : Int, e = .returned (.int .u8 v) ∧ Finds S T len x v ∧ w' = w := by
  go_enter Try.func20, Try.ntmps20
  go_wp2
  go_loop [7] (fun i => ∃ q : Nat, q ≤ len ∧ i = .int .i64 q ∧ ∀ i, i < q → (S i).toList ≠ x.toList) (fun i => len - (intOf i).toNat)
  case atStart => exact ⟨0, Nat.zero_le _, rfl, fun i hi => by omega⟩
  case round =>
    obtain ⟨q, hk, rfl, hall⟩ := hrel
    have HA : Hid (∀ i, i < q → (S i).toList ≠ x.toList) := hall
    clear hall
    by_cases hlt : q < len
    · obtain ⟨b, off, rfl, hbl, hc⟩ := h.at hlt
      obtain ⟨b', off', rfl, hbl', hc'⟩ := h'.at hlt
      have hck := hc q hlt
      have hck' := hc' q hlt
      clear hc hc' h h'
      by_cases hz : (S q).toList = x.toList
      · have hz' : ((S q).toList == x.toList) = true := by simp [hz]
        have HZ : Hid ((S q).toList = x.toList) := hz
        clear hz
        go_wp2
        go_ret
        exact ⟨_, rfl, .inl ⟨q, hlt, HZ.out, rfl⟩, rfl⟩
      · have hz' : ((S q).toList == x.toList) = false := by simp [hz]
        have HZ : Hid ((S q).toList ≠ x.toList) := hz
        clear hz
        go_wp2
        go_round
        case rel =>
          refine ⟨q + 1, by omega, by go_num, ?_⟩
          intro i hi
          rcases Nat.lt_or_ge i q with h | h
          · exact HA.out i h
          · obtain rfl : i = q := by omega
            exact HZ.out
        case measure => simp [intOf]; omega
    · go_wp2
      go_ret
      exact ⟨_, rfl, .inr ⟨fun i hi => HA.out i (by omega), rfl⟩, rfl⟩

end Go.Proofs.Qxb6003726a
