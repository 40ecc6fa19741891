import Derived.Test.Qxb6003726aArith
import Derived.Deep.RegionHeld3
namespace Go.Proofs.Qxb6003726a
open Go.RowKit

/-- n cells from a block's head on, there and not frozen. -/
def Room (w : World) (g n : Nat) : Prop := ∀ i, i < n → (∃ v, w.cell? ⟨g, i, none⟩ = some v) ∧ w.frozen? ⟨g, i, none⟩ = false
theorem Room.below {w w' : World} {g n B : Nat} (h : Room w g n) (hb : Below B w w') (hg : g < B) : Room w' g n := fun i hi => by
  obtain ⟨⟨v, hv⟩, hf⟩ := h i hi
  exact ⟨⟨v, (hb.cell (by exact hg)).trans hv⟩, (hb.frozen (by exact hg)).trans hf⟩
theorem Room.set {w : World} {g n : Nat} (h : Room w g n) (a : Addr) (u : Value) : Room (w.setCell a u) g n := fun i hi => by
  obtain ⟨⟨v, hv⟩, hf⟩ := h i hi
  exact ⟨cell?_setCell_some hv, by rw [World.frozen?_setCell]; exact hf⟩

theorem room_of_owns {w : World} {base g : Nat} {e : TypeId} {n c : Nat} {xs : List Value} (h : w.ownsRow base e 1 (.slice (some ⟨g, 0, none⟩) n c) n xs) : Room w g n := by
  rcases h.2 with ⟨h0, _⟩ | ⟨g', cap, cur, hv, hb, hh, hcap, hm, hsz, r⟩
  · cases h0
  · obtain rfl : g = g' := by simpa using (Value.slice.inj hv).1
    intro i hi
    have hl : i < cur.size := by omega
    refine ⟨⟨cur[i], ?_⟩, ?_⟩
    · rw [cell_of_row w g i cur e _ hh]; simp [hl]
    · simp [World.frozen?, hh]

/-- The elements done so far. -/
def Done (w : World) (g k : Nat) (E : Nat → Int) : Prop := ∀ i, i < k → w.cell? ⟨g, i, none⟩ = some (.int .u64 (E i))
theorem Done.step {w : World} {g k n : Nat} {E : Nat → Int} (h : Done w g k E) (hr : Room w g n) (hk : k < n) : Done (w.setCell ⟨g, k, none⟩ (.int .u64 (E k))) g (k + 1) E := fun i hi => by
  by_cases hik : i = k
  · subst hik
    obtain ⟨⟨v, hv⟩, _⟩ := hr i hk
    exact World.cell?_setCell_same (h := hv) ..
  · rw [World.cell?_setCell_other (h := show (⟨g, k, none⟩ : Addr) ≠ ⟨g, i, none⟩ from fun e => hik (congrArg Addr.off e).symm)]
    exact h i (by omega)
theorem Done.other {w : World} {g k : Nat} {E : Nat → Int} (h : Done w g k E) {a : Addr} (ha : a.block ≠ g) (u : Value) : Done (w.setCell a u) g k E := fun i hi => by
  rw [World.cell?_setCell_other (h := fun e => ha (congrArg Addr.block e))]
  exact h i hi
theorem Done.below {w w' : World} {g k B : Nat} {E : Nat → Int} (h : Done w g k E) (hb : Below B w w') (hg : g < B) : Done w' g k E := fun i hi => (hb.cell (by exact hg)).trans (h i hi)
theorem Done.row {w : World} {g n : Nat} {E : Nat → Int} (h : Done w g n E) (hg : g < w.heap.size) : Row w (some ⟨g, 0, none⟩) n fun i => .int .u64 (E i) :=
  .inr ⟨g, 0, rfl, hg, fun i hi => by rw [Nat.zero_add]; exact h i hi⟩

/-- holdingOf, a small set. -/
theorem f32_small (a : Option Addr) (n c : Nat) (w : World) (hn : n ≤ 13) :
    Calls Try.prog 32 #[.slice a n c] w fun e w' => e = .returned (.agg #[.int .u64 n, .slice a n c, .slice none 0 0]) ∧ Below w.heap.size w w' := by
  go_enter Try.func32, Try.ntmps32
  go_wp2
  exact bodyPost_ret (v := .agg #[.int .u64 n, .slice a n c, .slice none 0 0]) (by simp [results, Try.results32, go_sem]) rfl ⟨rfl, ((Below.refl _ _).alloc (Nat.le_refl _) _).alloc (by simp) _⟩

/-- The j-th value of a sketch. -/
def sketchAt (H : Nat → Int) (n j : Nat) : Int := prodTo (fun i => H i % 2305843009213693951) (2305843009213693950 - (j : Int)) n
/-- What holdingOf hands back of a large set. -/
def Sketched (H : Nat → Int) (n : Nat) (w : World) (e : Ending) (w' : World) : Prop :=
  ∃ gs, e = .returned (.agg #[.int .u64 n, .slice none 0 0, .slice (some ⟨gs, 0, none⟩) 13 13]) ∧ Row w' (some ⟨gs, 0, none⟩) 13 (fun j => .int .u64 (sketchAt H n j)) ∧ Below w.heap.size w w'

set_option maxHeartbeats 1000000 in
set_option maxRecDepth 100000 in
/-- holdingOf, a large set. -/
theorem f32_large (a : Option Addr) (n c : Nat) (H : Nat → Int) (w : World) (h : Row w a n fun i => .int .u64 (H i)) (hn0 : 13 < n) (hn : n ≤ 2048) (hH : ∀ i, i < n → 0 ≤ H i ∧ Hid (H i < 18446744073709551616)) :
    Calls Try.prog 32 #[.slice a n c] w (Sketched H n w) := by
  obtain ⟨i0, hi0, hz0, hz1, hz2⟩ := info_parts Try.info25
  have hd : decide ((n : Int) ≤ 13) = false := by simp; omega
  go_enter Try.func32, Try.ntmps32
  go_wp2_with (at_make; refine wpList_make_full _ rfl _ _ 22 rfl w.heap.size 25 i0 _ 1 Try.underlying22 hi0 hz0 hz1 _ _ _ _ n rfl rfl (by omega) (by omega) (by rw [hz2]; omega) (by unfold maxLen; omega) (by simp; omega) ?_; intro W1 hownE hgrow)
  -- what is known of the world behind the first make
  have hs0 : ((w.alloc (Obj.cells #[Value.int IntKind.u64 0, Value.slice none 0 0, Value.slice none 0 0] 69)).alloc (Obj.cells #[Value.int IntKind.u64 ↑n, Value.slice none 0 0, Value.slice none 0 0] 69)).heap.size = w.heap.size + 1 + 1 := by simp
  rw [hs0] at hownE
  have hRE := room_of_owns hownE
  have hge1 : w.heap.size + 1 + 1 < W1.heap.size := (hownE.lt _ rfl).2
  have hb01 : Below (w.heap.size + 1 + 1) _ W1 := (Below.refl _ _).grown hgrow (by rw [hs0]; exact Nat.le_refl _) (by simp)
  have hb1 : Below w.heap.size w W1 := (((Below.refl _ _).alloc (Nat.le_refl _) _).alloc (by simp) _).trans (hb01.mono (by omega))
  have c0 : W1.cell? ⟨w.heap.size + 1, 0, none⟩ = some (.int .u64 n) := by rw [hb01.cell (by simp)]; simp [go_sem]
  have c1 : W1.cell? ⟨w.heap.size + 1, 1, none⟩ = some (.slice none 0 0) := by rw [hb01.cell (by simp)]; simp [go_sem]
  have c2 : W1.cell? ⟨w.heap.size + 1, 2, none⟩ = some (.slice none 0 0) := by rw [hb01.cell (by simp)]; simp [go_sem]
  have f2 : W1.frozen? ⟨w.heap.size + 1, 2, none⟩ = false := by rw [hb01.frozen (by simp)]; simp [go_sem]
  have hRR : Room W1 w.heap.size 3 := by
    intro i hi
    rw [hb01.cell (by show w.heap.size < _; omega), hb01.frozen (by show w.heap.size < _; omega)]
    have hi3 : i = 0 ∨ i = 1 ∨ i = 2 := by omega
    rcases hi3 with rfl | rfl | rfl <;> simp [go_sem]
  clear hownE hgrow hb01 hs0
  have hE : ∀ i, i < n → 0 ≤ H i % 2305843009213693951 ∧ H i % 2305843009213693951 < 2305843009213693951 := fun i _ => ⟨by omega, by omega⟩
  have HE := show Hid _ from hE
  clear hE
  generalize hge : w.heap.size + 1 + 1 = ge at *
  generalize hgh : w.heap.size + 1 = gh at *
  have l1 : w.heap.size < gh := by omega
  have l2 : gh < ge := by omega
  have l3 : w.heap.size < ge := by omega
  clear hge hgh
  go_loopw [23] (fun vi wr => ∃ k : Nat, k ≤ n ∧ vi = .int .i64 k ∧ Done wr ge k (fun i => H i % 2305843009213693951) ∧ Room wr ge n ∧ Below ge W1 wr) (fun vi _ => n - (intOf vi).toNat)
  case atStart => exact ⟨0, Nat.zero_le _, rfl, fun i hi => by omega, hRE, Below.refl _ _⟩
  case round =>
    obtain ⟨k, hk, rfl, hdone, hroom, hbel⟩ := hrel
    by_cases hlt : k < n
    · obtain ⟨b, off, rfl, hbl, hc⟩ := h.at hlt
      have hck := ((hbel.cell (p := ⟨b, off + k, none⟩) (by show b < ge; omega)).trans (hb1.cell (p := ⟨b, off + k, none⟩) hbl)).trans (hc k hlt)
      obtain ⟨hk0, HK1⟩ := hH k hlt
      obtain ⟨⟨v0, hv0⟩, hfz⟩ := hroom k hlt
      have hdone2 := hdone.step hroom hlt
      have hroom2 := hroom.set ⟨ge, k, none⟩ (.int .u64 (H k % 2305843009213693951))
      have hbel2 := hbel.setCell (p := ⟨ge, k, none⟩) (Nat.le_refl _) (.int .u64 (H k % 2305843009213693951))
      have HD2 := show Hid _ from hdone2
      have HR2 := show Hid _ from hroom2
      have b1 : (0 : Int) ≤ (k : Int) := by omega
      have b2 : (k : Int) < (n : Int) := by omega
      clear hdone hroom hdone2 hroom2 hc h c0 c1 c2 f2 hRR hRE hb1 hbel
      go_wp2_with fail
      refine (f38_any (H k) wr hk0 HK1).mono ?_
      rintro e w' ⟨rfl, rfl⟩
      go_wp2_with fail
      go_roundw
      case rel => exact ⟨k + 1, by omega, by go_num, HD2.out, HR2.out, hbel2⟩
      case measure => simp [intOf]; omega
    · have hkl : n = k := by omega
      subst hkl
      have k0 := (hbel.cell (p := ⟨gh, 0, none⟩) l2).trans c0
      have k1 := (hbel.cell (p := ⟨gh, 1, none⟩) l2).trans c1
      have k2 := (hbel.cell (p := ⟨gh, 2, none⟩) l2).trans c2
      have kf := (hbel.frozen (p := ⟨gh, 2, none⟩) l2).trans f2
      have hRR2 := hRR.below hbel l3
      have hb2 : Below w.heap.size w wr := hb1.trans (hbel.mono (by omega))
      have hsz := hbel.size
      clear hroom hRE c0 c1 c2 f2 hRR hbel hb1 hk hlt h hH
      obtain ⟨W2, hW2⟩ : ∃ x, x = wr := ⟨wr, rfl⟩
      subst hW2
      obtain ⟨W3, hmk0, hownS, hgrow⟩ := run_make_full (P := Try.prog) W2 w.heap.size 22 25 i0 _ 1 Try.underlying22 hi0 hz0 hz1 .i64 .i64 13 (by rw [hz2]; omega) (by unfold maxLen; omega) (by omega)
      have hmk : (Instr.makeSlice 22 (.int .i64 13) (.int .i64 13)).run Try.prog W2 = .ok (.slice (some ⟨W2.heap.size, 0, none⟩) 13 13) W3 := hmk0
      have hb3 : Below W2.heap.size W2 W3 := (Below.refl _ _).grown hgrow (Nat.le_refl _) (by simp)
      have lgh : gh < W2.heap.size := by omega
      have m0 := (hb3.cell (p := ⟨gh, 0, none⟩) lgh).trans k0
      have m1 := (hb3.cell (p := ⟨gh, 1, none⟩) lgh).trans k1
      have m2 := (hb3.cell (p := ⟨gh, 2, none⟩) lgh).trans k2
      have mf := (hb3.frozen (p := ⟨gh, 2, none⟩) lgh).trans kf
      have hRS := room_of_owns hownS
      have hgs : W2.heap.size < W3.heap.size := (hownS.lt _ rfl).2
      have hRR3 := hRR2.below hb3 (by omega)
      have hdone3 := hdone.below hb3 (by omega)
      have hb4 : Below w.heap.size w W3 := hb2.trans (hb3.mono (by omega))
      clear hmk0 hownS hgrow k0 k1 k2 kf hRR2 hdone hb2 hb3
      go_wp2_with fail
      clear hmk
      have lge : ge < W2.heap.size := by omega
      generalize W2.heap.size = gs at *
      have hnb : ∀ i : Nat, i ≠ 2 → (⟨gh, 2, none⟩ : Addr) ≠ ⟨gh, i, none⟩ := fun i hi e => hi (congrArg Addr.off e).symm
      have n0 : (W3.setCell ⟨gh, 2, none⟩ (.slice (some ⟨gs, 0, none⟩) 13 13)).cell? ⟨gh, 0, none⟩ = some (.int .u64 n) := by rw [World.cell?_setCell_other (h := hnb 0 (by omega))]; exact m0
      have n1 : (W3.setCell ⟨gh, 2, none⟩ (.slice (some ⟨gs, 0, none⟩) 13 13)).cell? ⟨gh, 1, none⟩ = some (.slice none 0 0) := by rw [World.cell?_setCell_other (h := hnb 1 (by omega))]; exact m1
      have n2 : (W3.setCell ⟨gh, 2, none⟩ (.slice (some ⟨gs, 0, none⟩) 13 13)).cell? ⟨gh, 2, none⟩ = some (.slice (some ⟨gs, 0, none⟩) 13 13) := World.cell?_setCell_same (h := m2) ..
      have hRS4 := hRS.set ⟨gh, 2, none⟩ (.slice (some ⟨gs, 0, none⟩) 13 13)
      have hRR4 := hRR3.set ⟨gh, 2, none⟩ (.slice (some ⟨gs, 0, none⟩) 13 13)
      have hdone4 := hdone3.other (a := ⟨gh, 2, none⟩) (by show gh ≠ ge; omega) (.slice (some ⟨gs, 0, none⟩) 13 13)
      have hb5 := hb4.setCell (p := ⟨gh, 2, none⟩) (by show w.heap.size ≤ gh; omega) (.slice (some ⟨gs, 0, none⟩) 13 13)
      have hs4 : gs < (W3.setCell ⟨gh, 2, none⟩ (.slice (some ⟨gs, 0, none⟩) 13 13)).heap.size := by simp [World.setCell]; exact hgs
      clear m0 m1 m2 mf hRS hRR3 hdone3 hb4 hgs hnb
      generalize W3.setCell ⟨gh, 2, none⟩ (.slice (some ⟨gs, 0, none⟩) 13 13) = W4 at *
      go_loopw [39] (fun vj wr => ∃ j : Nat, j ≤ 13 ∧ vj = .int .i64 j ∧ Done wr gs j (sketchAt H n) ∧ Room wr gs 13 ∧ Below gs W4 wr) (fun vj _ => 13 - (intOf vj).toNat)
      case atStart => exact ⟨0, Nat.zero_le _, rfl, fun i hi => by omega, hRS4, Below.refl _ _⟩
      case round =>
        obtain ⟨j, hj, rfl, hdone, hroom, hbel⟩ := hrel
        have hszr := hbel.size
        by_cases hlt : j < 13
        · obtain ⟨⟨v0, hv0⟩, hfz⟩ := hroom j hlt
          have q2 := (hbel.cell (p := ⟨gh, 2, none⟩) (by show gh < gs; omega)).trans n2
          have hrE : Row wr (some ⟨ge, 0, none⟩) n fun i => .int .u64 (H i % 2305843009213693951) := (hdone4.below hbel lge).row (by omega)
          have hdone2 := hdone.step hroom hlt
          have hroom2 := hroom.set ⟨gs, j, none⟩ (.int .u64 (sketchAt H n j))
          have hbel2 := hbel.setCell (p := ⟨gs, j, none⟩) (Nat.le_refl _) (.int .u64 (sketchAt H n j))
          have HD2 := show Hid _ from hdone2
          have HR2 := show Hid _ from hroom2
          have b1 : (0 : Int) ≤ (j : Int) := by omega
          have b2 : (j : Int) < 13 := by omega
          have hne : gs ≠ gh := by omega
          have HF : Hid (∀ w', Row w' (some ⟨ge, 0, none⟩) n (fun i => .int .u64 (H i % 2305843009213693951)) → Calls Try.prog 39 #[.slice (some ⟨ge, 0, none⟩) n n, .int .u64 (2305843009213693950 - (j : Int))] w' fun e w'' => e = .returned (.int .u64 (sketchAt H n j)) ∧ w'' = w') := fun w' hw => f39_any (some ⟨ge, 0, none⟩) n n (fun i => H i % 2305843009213693951) (2305843009213693950 - (j : Int)) w' hw (by omega) HE.out (by omega) (by omega)
          clear hdone hroom hdone2 hroom2 n0 n1 n2 hRS4 hRR4 hdone4 hb5 hbel
          go_wp2_with fail
          go_region_held3 (fun w' => w'.cell? ⟨gh, 2, none⟩ = some (.slice (some ⟨gs, 0, none⟩) 13 13))
            (first
              | assumption
              | (rw [World.cell?_setCell_other (h := fun e => hne (congrArg Addr.block e))]; assumption)
              | go_keep)
            (first
              | (go_at_call 40; refine (f40_any _ _ b1 (by omega)).mono ?_; rintro e w' ⟨rfl, rfl⟩)
              | (go_at_call 39; refine (HF.out _ (by exact hrE)).mono ?_; rintro e w' ⟨rfl, rfl⟩))
          go_wp2_with fail
          go_roundw
          case rel => exact ⟨j + 1, by omega, by go_num, by exact HD2.out, by exact HR2.out, hbel2.drew⟩
          case measure => simp [intOf]; omega
        · have hj13 : j = 13 := by omega
          subst hj13
          have q0 := (hbel.cell (p := ⟨gh, 0, none⟩) (by show gh < gs; omega)).trans n0
          have q1 := (hbel.cell (p := ⟨gh, 1, none⟩) (by show gh < gs; omega)).trans n1
          have q2 := (hbel.cell (p := ⟨gh, 2, none⟩) (by show gh < gs; omega)).trans n2
          have hRR5 := hRR4.below hbel (by omega)
          obtain ⟨⟨x0, e0⟩, y0⟩ := hRR5 0 (by omega)
          obtain ⟨⟨x1, e1⟩, y1⟩ := hRR5 1 (by omega)
          obtain ⟨⟨x2, e2⟩, y2⟩ := hRR5 2 (by omega)
          have hb6 : Below w.heap.size w wr := hb5.trans (hbel.mono (by omega))
          clear hRR5 hRR4 n0 n1 n2 hRS4 hdone4 hb5 hroom hlt hj hbel
          go_wp2_with fail
          refine bodyPost_ret (v := .agg #[.int .u64 n, .slice none 0 0, .slice (some ⟨gs, 0, none⟩) 13 13]) (by simp [results, Try.results32, go_sem, e0, e1, e2]) rfl ?_
          have hne : w.heap.size ≠ gs := by omega
          refine ⟨gs, rfl, (((hdone.other (a := ⟨w.heap.size, 0, none⟩) hne _).other (a := ⟨w.heap.size, 1, none⟩) hne _).other (a := ⟨w.heap.size, 2, none⟩) hne _).row (by simp [World.setCell]; omega), ?_⟩
          exact ((hb6.setCell (p := ⟨w.heap.size, 0, none⟩) (Nat.le_refl _) _).setCell (p := ⟨w.heap.size, 1, none⟩) (Nat.le_refl _) _).setCell (p := ⟨w.heap.size, 2, none⟩) (Nat.le_refl _) _

end Go.Proofs.Qxb6003726a
