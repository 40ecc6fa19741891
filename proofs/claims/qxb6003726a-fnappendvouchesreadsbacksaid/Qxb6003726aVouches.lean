import Derived.Test.Qxb6003726aVouchLaw
namespace Go.Proofs.Qxb6003726a
open Go.RowKit

/-- The vouches' cells in block g. -/
def VRow (w : World) (g n : Nat) (S Z : Nat → ByteArray) (V : Nat → Nat) : Prop :=
  ∀ k, k < n → w.cell? ⟨g, k * 3, none⟩ = some (.string (S k)) ∧ w.cell? ⟨g, k * 3 + 1, none⟩ = some (.string (Z k)) ∧ w.cell? ⟨g, k * 3 + 2, none⟩ = some (.int .u64 (V k))

theorem VRow.below {w w' : World} {g n : Nat} {S Z : Nat → ByteArray} {V : Nat → Nat} (h : VRow w g n S Z V) {B : Nat} (hb : Below B w w') (hg : g < B) : VRow w' g n S Z V := fun k hk =>
  ⟨(hb.cell (by exact hg)).trans (h k hk).1, (hb.cell (by exact hg)).trans (h k hk).2.1, (hb.cell (by exact hg)).trans (h k hk).2.2⟩

theorem own_below {w w' : World} {base : Nat} {e : TypeId} {size : Nat} {v : Value} {n : Nat} {xs : List Value} (h : w.ownsRow base e size v n xs) (hb : Below w.heap.size w w') : w'.ownsRow base e size v n xs := by
  obtain ⟨h1, h2⟩ := h
  refine ⟨h1, ?_⟩
  rcases h2 with h2 | ⟨g, cap, cur, hv, hg, hh, r⟩
  · exact .inl h2
  · exact .inr ⟨g, cap, cur, hv, hg, by rw [hb.block g (Array.getElem?_eq_some_iff.1 hh).1]; exact hh, r⟩

/-- The length of a slice value. -/
def sliceLen : Value → Nat | .slice _ l _ => l | _ => 0

set_option maxHeartbeats 4000000 in
set_option maxRecDepth 100000 in
theorem f34_pos (B g n c m : Nat) (S Z : Nat → ByteArray) (V : Nat → Nat) (sv : Value) (xs : List Value) (w : World) (hrow : VRow w g n S Z V) (hg : g < B) (hB : B ≤ w.heap.size) (hn0 : 0 < n) (hn : n ≤ 4096) (hc : n ≤ c)
    (hown : w.ownsRow B 5 1 sv m xs) (hm : m ≤ 1048576) (hS : ∀ i, i < n → (S i).size ≤ 1048576) (hZ : ∀ i, i < n → (Z i).size ≤ 1048576) (HV : Hid (∀ i, i < n → V i < 18446744073709551616)) :
    Calls Try.prog 34 #[sv, .slice (some ⟨g, 0, none⟩) n c] w fun e w' => ∃ v', e = .returned v' ∧
      w'.ownsRow B 5 1 v' (m + (Lib.uvarint (cnt (start S) n) ++ enc S Z V n n).length) (xs ++ Lib.byteCells (Lib.uvarint (cnt (start S) n) ++ enc S Z V n n)) ∧ Below B w w' := by
  have hcl := cnt_le (start S) n
  go_enter Try.func34, Try.ntmps34
  go_wp2
  go_loopw [5, 6, 7, 14] (fun d _ _ i wr => ∃ k : Nat, k ≤ n ∧ i = .int .i64 k ∧ d = .int .i64 (cnt (start S) k : Nat) ∧ Below w.heap.size w wr) (fun _ _ _ i _ => n - (intOf i).toNat)
  case atStart => exact ⟨0, Nat.zero_le _, rfl, rfl, Below.refl _ _⟩
  case round =>
    obtain ⟨k, hk, rfl, rfl, hbel⟩ := hrel
    have hsz := hbel.size
    have hck := cnt_le (start S) k
    by_cases hlt : k < n
    · obtain ⟨d0, d1, d2⟩ := (hrow.below hbel (by omega)) k hlt
      have b1 : (0 : Int) ≤ (k : Int) := by omega
      have b2 : (k : Int) < (n : Int) := by omega
      have g1 : g < wr.heap.size := by omega
      by_cases hk0 : k = 0
      · subst hk0
        have hz : (((0 : Nat) : Int) == 0) = true := rfl
        go_wp2
        go_quiet (fail)
        go_wp2
        go_roundw
        case rel => exact ⟨1, by omega, by go_num, rfl, below_drewN (hbel.alloc (by omega) _) _⟩
        case measure => simp [intOf]; omega
      · obtain ⟨q, rfl⟩ : ∃ q, k = q + 1 := ⟨k - 1, by omega⟩
        have hz : ((q : Int) + 1 == 0) = false := by simp; omega
        have b5 : q ≤ 4096 := by omega
        obtain ⟨e0, -, -⟩ := (hrow.below hbel (by omega)) q (by omega)
        have b3 : (0 : Int) ≤ (q : Int) := by omega
        have b4 : (q : Int) < (n : Int) := by omega
        cases hst : start S (q + 1) with
        | true =>
          have hne : ((S (q + 1)).toList == (S q).toList) = false := by simpa [start] using hst
          have HC : Hid (cnt (start S) (q + 1 + 1) = cnt (start S) (q + 1) + 1) := by simp [Hid, cnt, hst]
          clear hst hk0
          go_wp2
          go_quiet (fail)
          go_wp2
          go_roundw
          case rel => exact ⟨q + 1 + 1, by omega, by go_num, by rw [HC.out]; go_num, below_drewN (hbel.alloc (by omega) _) _⟩
          case measure => simp [intOf]; omega
        | false =>
          have hne : ((S (q + 1)).toList == (S q).toList) = true := by simpa [start] using hst
          have HC : Hid (cnt (start S) (q + 1 + 1) = cnt (start S) (q + 1)) := by simp [Hid, cnt, hst]
          clear hst hk0
          go_wp2
          go_quiet (fail)
          go_wp2
          go_roundw
          case rel => exact ⟨q + 1 + 1, by omega, by go_num, by rw [HC.out], below_drewN (hbel.alloc (by omega) _) _⟩
          case measure => simp [intOf]; omega
    · have hkl : n = k := by omega
      subst hkl
      clear hlt hk hck
      go_wp2_with fail
      refine (f41_any B m (cnt (start S) n) (by omega) sv xs wr (own_below hown hbel) (by omega) (by omega)).mono ?_
      rintro e w2 ⟨v2, rfl, hown2, hg2, _⟩
      have hul := Lib.uvarint_length64 (x := cnt (start S) n) (by omega)
      have hb2 : Below B w w2 := (hbel.mono hB).grown hg2 (by omega) (fun k hk => ((own_below hown hbel).lt k hk).1)
      clear hown hbel hsz hcl hg2
      have hEI := encIn_le (n := n) (by omega) hS hZ HV.out
      have FIN : ∀ (v : Value) (w' : World), w'.ownsRow B 5 1 v (m + (Lib.uvarint (cnt (start S) n)).length + (enc S Z V n n).length) (xs ++ Lib.byteCells (Lib.uvarint (cnt (start S) n)) ++ Lib.byteCells (enc S Z V n n)) →
          w'.ownsRow B 5 1 v (m + (Lib.uvarint (cnt (start S) n) ++ enc S Z V n n).length) (xs ++ Lib.byteCells (Lib.uvarint (cnt (start S) n) ++ enc S Z V n n)) := fun v w' h => by
        rw [List.length_append, Lib.byteCells_append, ← Nat.add_assoc, ← List.append_assoc]; exact h
      have HF := show Hid _ from FIN
      clear FIN
      have hM : m + (Lib.uvarint (cnt (start S) n)).length ≤ 1048586 := by omega
      generalize m + (Lib.uvarint (cnt (start S) n)).length = M at *
      generalize xs ++ Lib.byteCells (Lib.uvarint (cnt (start S) n)) = X at *
      clear hul
      go_wp2_with fail
      go_loopw [0, 1] (fun vb vv wr => ∃ i, AtRun S n i ∧ (vv = .slice (some ⟨g, i * 3, none⟩) (n - i) (c - i) ∨ (i = n ∧ ∃ a cc, vv = .slice a 0 cc)) ∧ wr.ownsRow B 5 1 vb (M + (enc S Z V n i).length) (X ++ Lib.byteCells (enc S Z V n i)) ∧ Below B w wr) (fun _ vv _ => sliceLen vv)
      case atStart => exact ⟨0, ⟨Nat.zero_le _, fun _ => rfl⟩, .inl rfl, by simpa [enc, Lib.byteCells] using hown2, hb2⟩
      case round =>
        clear hown2 hb2
        obtain ⟨i, hat, hvv, hown, hbel⟩ := hrel
        have hsz := hbel.size
        by_cases hlt : i < n
        · have hst := hat.2 hlt
          have hrun := run_at S hlt
          obtain rfl : u1 = .slice (some ⟨g, i * 3, none⟩) (n - i) (c - i) := by
            rcases hvv with h | ⟨h, _⟩
            · exact h
            · omega
          clear hvv
          have hln : ((n - i : Nat) : Int) = (n : Int) - (i : Int) := by omega
          have hr2 := rl_le S n i
          have c1 : i ≤ 4096 := by omega
          obtain ⟨d0, -, -⟩ := (hrow.below hbel hg) i hlt
          have hrl := hrun.pos
          have hrf := hrun.fits
          go_wp2_with fail
          go_loop [9] (fun r => ∃ q : Nat, 1 ≤ q ∧ q ≤ rl S n i ∧ r = .int .i64 q) (fun r => rl S n i - (intOf r).toNat)
          case atStart => exact ⟨1, by omega, hrl, rfl⟩
          case round =>
            obtain ⟨q, hq1, hq2, rfl⟩ := hrel
            by_cases hqr : q < rl S n i
            · obtain ⟨e0, -, -⟩ := (hrow.below hbel hg) (i + q) (by omega)
              have e0' : wr.cell? ⟨g, i * 3 + q * 3, none⟩ = some (.string (S (i + q))) := by rw [← Nat.add_mul]; exact e0
              have heq : ((S (i + q)).toList == (S i).toList) = true := by simp [hrun.same q hqr]
              have b1 : (0 : Int) ≤ (q : Int) := by omega
              have b2 : (q : Int) < ((n - i : Nat) : Int) := by omega
              have b3 : q ≤ 4096 := by omega
              clear e0
              go_wp2_with fail
              go_round
              case rel => exact ⟨q + 1, by omega, by omega, by go_num⟩
              case measure => simp [intOf]; omega
            · have hqe : rl S n i = q := by omega
              have HRL : Hid (rl S n i = q) := hqe
              rw [hqe] at hrun
              have hqf := hrun.fits
              have hE := enc_le (n := n) (by omega) hS hZ HV.out i (by omega)
              have hSi := hS i hlt
              have ENC0 : Hid (encIn S Z V n i 0 = enc S Z V n i ++ (idb (S i) ++ Lib.uvarint q)) := by rw [← hqe]; exact encIn_zero hst
              clear hr2 hrl hrf hq2 hqr hqe hst hat
              have b1 : (0 : Int) ≤ (q : Int) := by omega
              have b3 : q ≤ 4096 := by omega
              by_cases hin : i + q < n
              · obtain ⟨e0, -, -⟩ := (hrow.below hbel hg) (i + q) (by omega)
                have e0' : wr.cell? ⟨g, i * 3 + q * 3, none⟩ = some (.string (S (i + q))) := by rw [← Nat.add_mul]; exact e0
                have heq : ((S (i + q)).toList == (S i).toList) = false := by
                  rcases hrun.stop with h | h
                  · omega
                  · simp [h]
                have b2 : (q : Int) < ((n - i : Nat) : Int) := by omega
                clear e0
                go_wp2_with fail
                refine (f42_any B _ (S i) hSi u0 _ wr hown (by omega) (by omega)).mono ?_
                rintro e w3 ⟨v3, rfl, hown3, hg3⟩
                have hb3 : Below B w w3 := hbel.grown hg3 (by omega) (fun k hk => (hown.lt k hk).1)
                have hsz3 := hb3.size
                have hidl := idb_le hSi
                clear hown hbel hg3
                go_wp2_with fail
                refine (f41_any B _ q (by omega) v3 _ w3 hown3 (by omega) (by omega)).mono ?_
                rintro e w4 ⟨v4, rfl, hown4, hg4, _⟩
                have hb4 : Below B w w4 := hb3.grown hg4 (by omega) (fun k hk => (hown3.lt k hk).1)
                have hown5 : w4.ownsRow B 5 1 v4 (M + (encIn S Z V n i 0).length) (X ++ Lib.byteCells (encIn S Z V n i 0)) := by
                  rw [ENC0.out, List.length_append, List.length_append, Lib.byteCells_append, Lib.byteCells_append, ← Nat.add_assoc, ← Nat.add_assoc, ← List.append_assoc, ← List.append_assoc]
                  exact hown4
                clear hown3 hown4 hb3 hg4 hsz3 hidl hE ENC0
                go_wp2_with fail
                go_loopw [0, 11, 76] (fun vb _ vt wr => ∃ t : Nat, t ≤ q ∧ vt = .int .i64 t ∧ wr.ownsRow B 5 1 vb (M + (encIn S Z V n i t).length) (X ++ Lib.byteCells (encIn S Z V n i t)) ∧ Below B w wr) (fun _ _ vt _ => q - (intOf vt).toNat)
                case atStart => exact ⟨0, Nat.zero_le _, rfl, hown5, hb4⟩
                case round =>
                  clear hown5 hb4
                  obtain ⟨t, ht, rfl, hown, hbel⟩ := hrel
                  have hsz := hbel.size
                  have hel := hEI i t hlt (by omega)
                  by_cases htq : t < q
                  · obtain ⟨d0, d1, d2⟩ := (hrow.below hbel hg) (i + t) (by omega)
                    rw [Nat.add_mul] at d0 d1 d2
                    have f1 : (0 : Int) ≤ (t : Int) := by omega
                    have f2 : (t : Int) < (q : Int) := by omega
                    have hbo : u0.ownBlock ≠ some wr.heap.size := fun e => by have := (hown.lt _ e).2; omega
                    have hZk := hZ (i + t) (by omega)
                    have HVk : Hid (V (i + t) < 18446744073709551616) := HV.out (i + t) (by omega)
                    have ES : Hid (encIn S Z V n i (t + 1) = encIn S Z V n i t ++ (idb (Z (i + t)) ++ Lib.uvarint (V (i + t)))) := encIn_succ hrun htq
                    go_wp2_with fail
                    refine (f42_any B _ (Z (i + t)) hZk _ _ _ (hown.alloc _) (by simp; omega) (by omega)).mono ?_
                    rintro e w5 ⟨v5, rfl, hown6, hg6⟩
                    have hb6 : Below B w w5 := (hbel.alloc (by omega) _).grown hg6 (by simp; omega) (fun k hk => (hown.lt k hk).1)
                    have hcell : w5.cell? ⟨wr.heap.size, 2, none⟩ = some (.int .u64 (V (i + t))) := by
                      rw [hg6.cell_far _ (by simp) (Ne.symm hbo)]
                      simp
                    have hidl := idb_le hZk
                    have hsz6 := hb6.size
                    clear hg6 hown hbel d0 d1 d2
                    go_wp2_with fail
                    refine (f41_any B _ (V (i + t)) HVk.out v5 _ w5 hown6 (by omega) (by omega)).mono ?_
                    rintro e w6 ⟨v6, rfl, hown7, hg7, _⟩
                    have hb7 : Below B w w6 := hb6.grown hg7 (by omega) (fun k hk => (hown6.lt k hk).1)
                    clear hown6 hb6 hg7 hcell
                    go_wp2_with fail
                    go_roundw
                    case rel =>
                      refine ⟨t + 1, by omega, by go_num, ?_, hb7⟩
                      rw [ES.out, List.length_append, List.length_append, Lib.byteCells_append, Lib.byteCells_append, ← Nat.add_assoc, ← Nat.add_assoc, ← List.append_assoc, ← List.append_assoc]
                      exact hown7
                    case measure => simp [intOf]; omega
                  · have htq' : q = t := by omega
                    subst htq'
                    rw [encIn_full hrun.pos] at hown
                    have hat2 : AtRun S n (i + q) := AtRun.next hrun
                    have hp := hrun.pos
                    clear htq ht hel
                    go_wp2_with fail
                    refine ⟨⟨i + q, hat2, .inl ?_, hown, hbel⟩, by simp [sliceLen]; omega⟩
                    rw [← Nat.add_mul, Nat.sub_sub, Nat.sub_sub]
              · have b2 : ¬ (q : Int) < ((n - i : Nat) : Int) := by omega
                go_wp2_with fail
                refine (f42_any B _ (S i) hSi u0 _ wr hown (by omega) (by omega)).mono ?_
                rintro e w3 ⟨v3, rfl, hown3, hg3⟩
                have hb3 : Below B w w3 := hbel.grown hg3 (by omega) (fun k hk => (hown.lt k hk).1)
                have hsz3 := hb3.size
                have hidl := idb_le hSi
                clear hown hbel hg3
                go_wp2_with fail
                refine (f41_any B _ q (by omega) v3 _ w3 hown3 (by omega) (by omega)).mono ?_
                rintro e w4 ⟨v4, rfl, hown4, hg4, _⟩
                have hb4 : Below B w w4 := hb3.grown hg4 (by omega) (fun k hk => (hown3.lt k hk).1)
                have hown5 : w4.ownsRow B 5 1 v4 (M + (encIn S Z V n i 0).length) (X ++ Lib.byteCells (encIn S Z V n i 0)) := by
                  rw [ENC0.out, List.length_append, List.length_append, Lib.byteCells_append, Lib.byteCells_append, ← Nat.add_assoc, ← Nat.add_assoc, ← List.append_assoc, ← List.append_assoc]
                  exact hown4
                clear hown3 hown4 hb3 hg4 hsz3 hidl hE ENC0
                go_wp2_with fail
                go_loopw [0, 11, 76] (fun vb _ vt wr => ∃ t : Nat, t ≤ q ∧ vt = .int .i64 t ∧ wr.ownsRow B 5 1 vb (M + (encIn S Z V n i t).length) (X ++ Lib.byteCells (encIn S Z V n i t)) ∧ Below B w wr) (fun _ _ vt _ => q - (intOf vt).toNat)
                case atStart => exact ⟨0, Nat.zero_le _, rfl, hown5, hb4⟩
                case round =>
                  clear hown5 hb4
                  obtain ⟨t, ht, rfl, hown, hbel⟩ := hrel
                  have hsz := hbel.size
                  have hel := hEI i t hlt (by omega)
                  by_cases htq : t < q
                  · obtain ⟨d0, d1, d2⟩ := (hrow.below hbel hg) (i + t) (by omega)
                    rw [Nat.add_mul] at d0 d1 d2
                    have f1 : (0 : Int) ≤ (t : Int) := by omega
                    have f2 : (t : Int) < (q : Int) := by omega
                    have hbo : u0.ownBlock ≠ some wr.heap.size := fun e => by have := (hown.lt _ e).2; omega
                    have hZk := hZ (i + t) (by omega)
                    have HVk : Hid (V (i + t) < 18446744073709551616) := HV.out (i + t) (by omega)
                    have ES : Hid (encIn S Z V n i (t + 1) = encIn S Z V n i t ++ (idb (Z (i + t)) ++ Lib.uvarint (V (i + t)))) := encIn_succ hrun htq
                    go_wp2_with fail
                    refine (f42_any B _ (Z (i + t)) hZk _ _ _ (hown.alloc _) (by simp; omega) (by omega)).mono ?_
                    rintro e w5 ⟨v5, rfl, hown6, hg6⟩
                    have hb6 : Below B w w5 := (hbel.alloc (by omega) _).grown hg6 (by simp; omega) (fun k hk => (hown.lt k hk).1)
                    have hcell : w5.cell? ⟨wr.heap.size, 2, none⟩ = some (.int .u64 (V (i + t))) := by
                      rw [hg6.cell_far _ (by simp) (Ne.symm hbo)]
                      simp
                    have hidl := idb_le hZk
                    have hsz6 := hb6.size
                    clear hg6 hown hbel d0 d1 d2
                    go_wp2_with fail
                    refine (f41_any B _ (V (i + t)) HVk.out v5 _ w5 hown6 (by omega) (by omega)).mono ?_
                    rintro e w6 ⟨v6, rfl, hown7, hg7, _⟩
                    have hb7 : Below B w w6 := hb6.grown hg7 (by omega) (fun k hk => (hown6.lt k hk).1)
                    clear hown6 hb6 hg7 hcell
                    go_wp2_with fail
                    go_roundw
                    case rel =>
                      refine ⟨t + 1, by omega, by go_num, ?_, hb7⟩
                      rw [ES.out, List.length_append, List.length_append, Lib.byteCells_append, Lib.byteCells_append, ← Nat.add_assoc, ← Nat.add_assoc, ← List.append_assoc, ← List.append_assoc]
                      exact hown7
                    case measure => simp [intOf]; omega
                  · have htq' : q = t := by omega
                    subst htq'
                    rw [encIn_full hrun.pos] at hown
                    have hat2 : AtRun S n (i + q) := AtRun.next hrun
                    have hp := hrun.pos
                    clear htq ht hel
                    go_wp2_with fail
                    have hn0 : n - i - q = 0 := by omega
                    refine ⟨⟨i + q, hat2, .inr ⟨by omega, _, _, congrArg (fun l => Value.slice _ l _) hn0⟩, hown, hbel⟩, by simp [sliceLen]; omega⟩
        · have hin : n = i := by have := hat.1; omega
          subst hin
          obtain ⟨aa, cc, rfl⟩ : ∃ a cc, u1 = .slice a 0 cc := by
            rcases hvv with h | ⟨_, a, cc, h⟩
            · exact ⟨_, _, h.trans (congrArg (fun l => Value.slice _ l _) (Nat.sub_self n))⟩
            · exact ⟨a, cc, h⟩
          clear hvv
          go_wp2_with fail
          go_ret
          exact ⟨_, rfl, HF.out _ _ hown, hbel⟩

set_option maxRecDepth 100000 in
/-- No vouches: the number 0 alone. -/
theorem f34_zero (B c m : Nat) (a : Option Addr) (S Z : Nat → ByteArray) (V : Nat → Nat) (sv : Value) (xs : List Value) (w : World) (hB : B ≤ w.heap.size) (hown : w.ownsRow B 5 1 sv m xs) (hm : m ≤ 1048576) :
    Calls Try.prog 34 #[sv, .slice a 0 c] w fun e w' => ∃ v', e = .returned v' ∧
      w'.ownsRow B 5 1 v' (m + (Lib.uvarint (cnt (start S) 0) ++ enc S Z V 0 0).length) (xs ++ Lib.byteCells (Lib.uvarint (cnt (start S) 0) ++ enc S Z V 0 0)) ∧ Below B w w' := by
  go_enter Try.func34, Try.ntmps34
  go_wp2
  go_loop [5, 14] (fun d i => d = .int .i64 0 ∧ i = .int .i64 0) (fun _ _ => 0)
  case atStart => exact ⟨rfl, rfl⟩
  case round =>
    obtain ⟨rfl, rfl⟩ := hrel
    go_wp2_with fail
    have h41 : Calls Try.prog 41 #[sv, .int .u64 0] w _ := f41_any B m 0 (by omega) sv xs w hown hB (by omega)
    refine h41.mono ?_
    clear h41
    rintro e w2 ⟨v2, rfl, hown2, hg2, _⟩
    have hb2 : Below B w w2 := (Below.refl _ _).grown hg2 (by omega) (fun k hk => (hown.lt k hk).1)
    clear hg2 hown
    go_wp2_with fail
    go_loop [0, 1] (fun v vv => v = v2 ∧ vv = .slice a 0 c) (fun _ _ => 0)
    case atStart => exact ⟨rfl, rfl⟩
    case round =>
      obtain ⟨rfl, rfl⟩ := hrel
      go_wp2_with fail
      go_ret
      exact ⟨_, rfl, by simpa [enc, cnt] using hown2, hb2⟩

end Go.Proofs.Qxb6003726a
