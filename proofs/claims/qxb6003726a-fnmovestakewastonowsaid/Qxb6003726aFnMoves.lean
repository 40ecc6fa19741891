import Derived.Test.Qxb6003726aMovesTail
import Derived.Test.Qxb6003726aBytes
import Derived.Deep.Cut
namespace Go.Proofs.Qxb6003726a
open Go.RowKit

/-- ZZMoves hands on what moves gives. -/
theorem f19_any (a a' : Option Addr) (n m c c' : Nat) (S S' : Nat → ByteArray) (T T' : Nat → Int) (w : World) (h : Row2 w a n S T) (h' : Row2 w a' m S' T') (hn : n ≤ 1048576) (hm : m ≤ 1048576)
    (L : Lists S S' T T' n m) : Calls Try.prog 19 #[.slice a n c, .slice a' m c'] w (Moved S S' T T' n m w) := by
  go_enter Try.func19, Try.ntmps19
  go_wp2_with fail
  refine (f33_any a a' n m c c' S S' T T' w h h' hn hm L).mono ?_
  rintro e w' ⟨v, ch, rfl, ho, hb, hi⟩
  go_wp2
  go_ret
  exact ⟨_, ch, rfl, ho, hb, hi⟩

/-- Behind a block of another's making the new element's block lies one further on. -/
theorem news_two (w : World) (o : Obj) (cs : Array Value) (t : TypeId) : ∀ j u, cs.toList[j]? = some u → (((w.alloc o).alloc (.cells cs t)).drew).cell? ((⟨w.heap.size + 1, 0, none⟩ : Addr).add j) = some u := by
  have h := heap_alloc_new (w.alloc o) (.cells cs t)
  rw [show (w.alloc o).heap.size = w.heap.size + 1 by simp] at h
  exact World.news_of_block (w := ((w.alloc o).alloc (.cells cs t)).drew) (B := w.heap.size + 1) (cs := cs) (t := t) (fr := (0, 0)) h

/-- Behind an append of one placing the relation stands again. -/
theorem placed_snoc {W wq w1 : World} {v : Value} {k gg cap : Nat} {S : Nat → ByteArray} {T : Nat → Int} {o o' : Obj} (hown : wq.ownsRow W.heap.size 40 2 v k (plCells S T k)) (hbel : Below W.heap.size W wq)
    (hown1 : w1.ownsRow W.heap.size 40 2 (.slice (some ⟨gg, 0, none⟩) (k + 1) cap) (k + 1) (plCells S T k ++ [.string (S k), .int .u8 (T k)]))
    (hgrow : ((wq.alloc o).alloc o').drew.grownBy w1 v.ownBlock) :
    w1.ownsRow W.heap.size 40 2 (.slice (some ⟨gg, 0, none⟩) (k + 1) cap) (k + 1) (plCells S T (k + 1)) ∧ Below W.heap.size W w1 := by
  have hsz := hbel.size
  exact ⟨hown1, ((hbel.alloc hsz o).alloc (by simp; omega) o').drew.grown hgrow (by simp; omega) (fun k e => (hown.lt k e).1)⟩

set_option maxHeartbeats 4000000 in
set_option maxRecDepth 100000 in
theorem f4_any (a0 a1 a2 a3 : Option Addr) (l0 l1 l2 l3 c0 c1 c2 c3 : Nat) (S S' : Nat → ByteArray) (T T' : Nat → Int) (w : World) (h0 : Row w a0 l0 fun i => .string (S i)) (h1 : Row w a1 l1 fun i => .int .u8 (T i)) (h2 : Row w a2 l2 fun i => .string (S' i)) (h3 : Row w a3 l3 fun i => .int .u8 (T' i))
    (m0 : l0 ≤ 9223372036854775807) (m1 : l1 ≤ 9223372036854775807) (m2 : l2 ≤ 9223372036854775807) (m3 : l3 ≤ 9223372036854775807) (s0 : ∀ i, i < l0 → (S i).size ≤ 9223372036854775807) (s2 : ∀ i, i < l2 → (S' i).size ≤ 9223372036854775807) :
    Calls Try.prog 4 #[.slice a0 l0 c0, .slice a1 l1 c1, .slice a2 l2 c2, .slice a3 l3 c3] w (Yes w) := by
  go_enter Try.func4, Try.ntmps4
  go_wp2_with fail
  refine (f12_any a0 a1 a2 a3 l0 l1 l2 l3 c0 c1 c2 c3 S S' w h0 h2 m0 m1 m2 m3 s0 s2).mono ?_
  rintro e w' ⟨⟨b, rfl, hb⟩, rfl⟩
  cases b with
  | false =>
    go_wp2
    go_ret
    exact ⟨rfl, Below.refl _ _⟩
  | true =>
    obtain ⟨⟨m0', s0'⟩, ⟨m2', s2'⟩, m1', m3'⟩ := hb rfl
    clear hb m0 m1 m2 m3 s0 s2
    go_wp2_with fail
    refine (f13_any a0 l0 c0 S _ h0 m0' s0').mono ?_
    rintro e w' ⟨⟨n1, rfl⟩, rfl⟩
    go_wp2_with fail
    refine (f13_any a2 l2 c2 S' _ h2 m2' s2').mono ?_
    rintro e w' ⟨⟨n2, rfl⟩, rfl⟩
    clear s0' s2'
    by_cases e1 : 1024 < l0
    · go_wp2_with fail
      all_goals (go_ret; exact ⟨rfl, Below.refl _ _⟩)
    by_cases e2 : 1024 < l2
    · go_wp2_with fail
      all_goals (go_ret; exact ⟨rfl, Below.refl _ _⟩)
    by_cases e3 : l0 = l1
    case neg =>
      have e3' : ((l0 : Int) != (l1 : Int)) = true := by rw [bne_iff_ne]; omega
      go_wp2_with fail
      all_goals (go_ret; exact ⟨rfl, Below.refl _ _⟩)
    by_cases e4 : l2 = l3
    case neg =>
      have e4' : ((l2 : Int) != (l3 : Int)) = true := by rw [bne_iff_ne]; omega
      subst e3
      go_wp2_with fail
      all_goals (go_ret; exact ⟨rfl, Below.refl _ _⟩)
    subst e3 e4
    clear m1' m3'
    go_wp2_with fail
    · go_ret
      exact ⟨rfl, Below.refl _ _⟩
    refine (f14_any a0 l0 c0 S _ h0 m0').mono ?_
    rintro e w1 ⟨⟨b1, rfl, asc⟩, k1, rfl⟩
    cases b1 with
    | false =>
      go_wp2_with fail
      go_ret
      exact ⟨rfl, below_drewN (Below.refl _ _) _⟩
    | true =>
    have HA : Hid (∀ i, i + 1 < l0 → Op.bytesLess (S i).toList (S (i + 1)).toList = true) := asc rfl
    clear asc
    go_wp2_with fail
    refine (f14_any a2 l2 c2 S' _ (h2.drewN _) m2').mono ?_
    rintro e w1 ⟨⟨b1, rfl, asc'⟩, k2, rfl⟩
    cases b1 with
    | false =>
      go_wp2_with fail
      go_ret
      exact ⟨rfl, below_drewN (Below.refl _ _) _⟩
    | true =>
    have HA' : Hid (∀ i, i + 1 < l2 → Op.bytesLess (S' i).toList (S' (i + 1)).toList = true) := asc' rfl
    clear asc'
    go_wp2_with fail
    refine (f15_any a1 l0 c1 T _ (h1.drewN _) m0').mono ?_
    rintro e w1 ⟨⟨b1, rfl, nz⟩, rfl⟩
    cases b1 with
    | false =>
      go_wp2_with fail
      go_ret
      exact ⟨rfl, below_drewN (Below.refl _ _) _⟩
    | true =>
    have HN : Hid (∀ i, i < l0 → T i ≠ 0) := nz rfl
    clear nz
    go_wp2_with fail
    refine (f15_any a3 l2 c3 T' _ (h3.drewN _) m2').mono ?_
    rintro e w1 ⟨⟨b1, rfl, nz'⟩, rfl⟩
    cases b1 with
    | false =>
      go_wp2_with fail
      go_ret
      exact ⟨rfl, below_drewN (Below.refl _ _) _⟩
    | true =>
    have HL : Hid (Lists S S' T T' l0 l2) := ⟨HA.out, HA'.out, HN.out, nz' rfl⟩
    have t0 := h0.drewN (k1 + k2)
    have t1 := h1.drewN (k1 + k2)
    have t2 := h2.drewN (k1 + k2)
    have t3 := h3.drewN (k1 + k2)
    have bel : Below w'.heap.size w' (w'.drewN (k1 + k2)) := below_drewN (Below.refl _ _) _
    clear HA HA' HN nz' h0 h1 h2 h3
    generalize w'.drewN (k1 + k2) = W0 at *
    go_wp2_with fail
    refine (f16_any a0 l0 c0 S _ t0 m0').mono ?_
    rintro e W1 ⟨a0', c0', rfl, r0, bel1⟩
    replace t1 := t1.below bel1 (Nat.le_refl _)
    replace t2 := t2.below bel1 (Nat.le_refl _)
    replace t3 := t3.below bel1 (Nat.le_refl _)
    replace bel := bel.trans (bel1.mono bel.size)
    clear bel1 t0
    go_wp2_with fail
    refine (f17_any a1 l0 c1 T _ t1 m0').mono ?_
    rintro e W2 ⟨a1', c1', rfl, r1, bel1⟩
    replace r0 := r0.below bel1 (Nat.le_refl _)
    replace t2 := t2.below bel1 (Nat.le_refl _)
    replace t3 := t3.below bel1 (Nat.le_refl _)
    replace bel := bel.trans (bel1.mono bel.size)
    clear bel1 t1
    go_wp2_with fail
    refine (f16_any a2 l2 c2 S' _ t2 m2').mono ?_
    rintro e W3 ⟨a2', c2', rfl, r2, bel1⟩
    replace r0 := r0.below bel1 (Nat.le_refl _)
    replace r1 := r1.below bel1 (Nat.le_refl _)
    replace t3 := t3.below bel1 (Nat.le_refl _)
    replace bel := bel.trans (bel1.mono bel.size)
    clear bel1 t2
    go_wp2_with fail
    refine (f17_any a3 l2 c3 T' _ t3 m2').mono ?_
    rintro e W4 ⟨a3', c3', rfl, r3, bel1⟩
    replace r0 := r0.below bel1 (Nat.le_refl _)
    replace r1 := r1.below bel1 (Nat.le_refl _)
    replace r2 := r2.below bel1 (Nat.le_refl _)
    replace bel := bel.trans (bel1.mono bel.size)
    clear bel1 t3 W0 W1 W2 W3
    obtain ⟨i0, hi0, hz0, hz1, hz2⟩ := info_parts Try.info40
    go_wp2_with (at_make; refine wpList_make_own _ rfl _ _ 37 rfl W4.heap.size 40 i0 _ 2 Try.underlying37 hi0 hz0 hz1 _ _ _ l0 rfl rfl (by omega) (by rw [hz2]; omega) (by unfold maxLen; omega) (Nat.le_refl _) ?_; intro W5 hown hgrow)
    have hbel5 : Below W4.heap.size W4 W5 := (Below.refl _ _).grown hgrow (Nat.le_refl _) (by simp)
    clear hgrow
    go_loopw [9, 10] (fun v i wr => ∃ k : Nat, k ≤ l0 ∧ i = .int .i64 k ∧ wr.ownsRow W4.heap.size 40 2 v k (plCells S T k) ∧ Below W4.heap.size W4 wr) (fun _ i _ => l0 - (intOf i).toNat)
    case atStart => exact ⟨0, Nat.zero_le _, rfl, hown, hbel5⟩
    case round =>
      clear hown hbel5
      obtain ⟨k, hk, rfl, hown, hbelr⟩ := hrel
      have hsz := hbelr.size
      by_cases hlt : k < l0
      · obtain ⟨b, off, rfl, hbl, hc⟩ := r0.at hlt
        obtain ⟨b', off', rfl, hbl', hc'⟩ := r1.at hlt
        have hr0 := (hbelr.cell (p := ⟨b, off + k, none⟩) hbl).trans (hc k hlt)
        have hr1 := (hbelr.cell (p := ⟨b', off' + k, none⟩) hbl').trans (hc' k hlt)
        clear hc hc' r0 r1 r2 r3 bel
        have ag : u9.ownBlock ≠ some b := fun e => by have := (hown.lt b e).1; omega
        have ag' : u9.ownBlock ≠ some b' := fun e => by have := (hown.lt b' e).1; omega
        have g1 : b < wr.heap.size := by omega
        have g2 : b' < wr.heap.size := by omega
        have b1 : (0 : Int) ≤ (k : Int) := by omega
        have b2 : (k : Int) < (l0 : Int) := by omega
        go_wp2_with fail
        go_region_held3 (fun w' => w'.cell? ⟨b, off + k, none⟩ = some (.string (S k)) ∧ w'.cell? ⟨b', off' + k, none⟩ = some (.int .u8 (T k)))
          (first
            | go_keep
            | (go_split_ands
               refine ⟨?_, ?_⟩
               · (rw [hgrow.cell_far _ (by simp; omega) (Ne.symm ag)]; assumption)
               · (rw [hgrow.cell_far _ (by simp; omega) (Ne.symm ag')]; assumption)))
          (first
            | (go_at_call 18; refine (f18_any _ _ _).mono ?_; rintro e w' ⟨rfl, o, rfl⟩)
            | ((refine step_append_lies _ (by rfl) _ _ _ (by rfl) W4.heap.size 40 i0 _ 2 24 Try.underlying37 hi0 hz0 hz1 hz2 rfl (by omega) u9 k (plCells S T k) (by rfl) (((hown.alloc _).alloc _).drew) ⟨wr.heap.size + 1, 0, none⟩ 1 1 [.string (S k), .int .u8 (T k)] (by rfl) (by rfl) (news_two _ _ #[.string (S k), .int .u8 (T k)] 40) (by simp [Value.oneCell']) (by omega) (by unfold maxLen; omega) (by omega) (by simp; omega) (wr.heap.size + 2) (by simp) ?_; intro gg cap w1 hown1 hgrow hat hlt)))
        go_wp2
        obtain ⟨q1, q2⟩ := placed_snoc hown hbelr hown1 hgrow
        exact ⟨⟨k + 1, by omega, by go_num, q1, q2⟩, by simp [intOf]; omega⟩
      · have hkl : l0 = k := by omega
        subst hkl
        obtain ⟨av, cv, rfl, rw2⟩ := owns_row2 hown
        replace r0 := r0.below hbelr (Nat.le_refl _)
        replace r1 := r1.below hbelr (Nat.le_refl _)
        replace r2 := r2.below hbelr (Nat.le_refl _)
        replace r3 := r3.below hbelr (Nat.le_refl _)
        replace bel := bel.trans (hbelr.mono bel.size)
        clear hown hbelr hsz hk hlt
        obtain ⟨W7, hW7⟩ : ∃ x, x = wr := ⟨wr, rfl⟩
        subst hW7
        go_wp2_with (at_make; refine wpList_make_own _ rfl _ _ 37 rfl W7.heap.size 40 i0 _ 2 Try.underlying37 hi0 hz0 hz1 _ _ _ l2 rfl rfl (by omega) (by rw [hz2]; omega) (by unfold maxLen; omega) (Nat.le_refl _) ?_; intro W6 hown hgrow)
        have hbel6 : Below W7.heap.size W7 W6 := (Below.refl _ _).grown hgrow (Nat.le_refl _) (by simp)
        clear hgrow
        go_loopw [11, 12] (fun v i wr => ∃ k : Nat, k ≤ l2 ∧ i = .int .i64 k ∧ wr.ownsRow W7.heap.size 40 2 v k (plCells S' T' k) ∧ Below W7.heap.size W7 wr) (fun _ i _ => l2 - (intOf i).toNat)
        case atStart => exact ⟨0, Nat.zero_le _, rfl, hown, hbel6⟩
        case round =>
          clear hown hbel6
          obtain ⟨k, hk, rfl, hown, hbelr⟩ := hrel
          have hsz := hbelr.size
          by_cases hlt : k < l2
          · obtain ⟨b, off, rfl, hbl, hc⟩ := r2.at hlt
            obtain ⟨b', off', rfl, hbl', hc'⟩ := r3.at hlt
            have hr0 := (hbelr.cell (p := ⟨b, off + k, none⟩) hbl).trans (hc k hlt)
            have hr1 := (hbelr.cell (p := ⟨b', off' + k, none⟩) hbl').trans (hc' k hlt)
            clear hc hc' r0 r1 r2 r3 bel rw2
            have ag : u11.ownBlock ≠ some b := fun e => by have := (hown.lt b e).1; omega
            have ag' : u11.ownBlock ≠ some b' := fun e => by have := (hown.lt b' e).1; omega
            have g1 : b < wr.heap.size := by omega
            have g2 : b' < wr.heap.size := by omega
            have b1 : (0 : Int) ≤ (k : Int) := by omega
            have b2 : (k : Int) < (l2 : Int) := by omega
            go_wp2_with fail
            go_region_held3 (fun w' => w'.cell? ⟨b, off + k, none⟩ = some (.string (S' k)) ∧ w'.cell? ⟨b', off' + k, none⟩ = some (.int .u8 (T' k)))
              (first
                | go_keep
                | (go_split_ands
                   refine ⟨?_, ?_⟩
                   · (rw [hgrow.cell_far _ (by simp; omega) (Ne.symm ag)]; assumption)
                   · (rw [hgrow.cell_far _ (by simp; omega) (Ne.symm ag')]; assumption)))
              (first
                | (go_at_call 18; refine (f18_any _ _ _).mono ?_; rintro e w' ⟨rfl, o, rfl⟩)
                | ((refine step_append_lies _ (by rfl) _ _ _ (by rfl) W7.heap.size 40 i0 _ 2 24 Try.underlying37 hi0 hz0 hz1 hz2 rfl (by omega) u11 k (plCells S' T' k) (by rfl) (((hown.alloc _).alloc _).drew) ⟨wr.heap.size + 1, 0, none⟩ 1 1 [.string (S' k), .int .u8 (T' k)] (by rfl) (by rfl) (news_two _ _ #[.string (S' k), .int .u8 (T' k)] 40) (by simp [Value.oneCell']) (by omega) (by unfold maxLen; omega) (by omega) (by simp; omega) (wr.heap.size + 2) (by simp) ?_; intro gg cap w1 hown1 hgrow hat hlt)))
            go_wp2
            obtain ⟨q1, q2⟩ := placed_snoc hown hbelr hown1 hgrow
            exact ⟨⟨k + 1, by omega, by go_num, q1, q2⟩, by simp [intOf]; omega⟩
          · have hkl : l2 = k := by omega
            subst hkl
            obtain ⟨av', cv', rfl, rw2'⟩ := owns_row2 hown
            replace r0 := r0.below hbelr (Nat.le_refl _)
            replace r1 := r1.below hbelr (Nat.le_refl _)
            replace r2 := r2.below hbelr (Nat.le_refl _)
            replace r3 := r3.below hbelr (Nat.le_refl _)
            replace rw2 := rw2.below hbelr (Nat.le_refl _)
            replace bel := bel.trans (hbelr.mono bel.size)
            clear hown hbelr hsz hk hlt
            obtain ⟨W8, hW8⟩ : ∃ x, x = wr := ⟨wr, rfl⟩
            subst hW8
            go_upto_region 23 with fail
            rename_i Kt hKt
            have HKt := show Hid _ from hKt
            clear hKt
            go_wp2_with fail
            refine (f19_any av av' l0 l2 cv cv' S S' T T' W8 rw2 rw2' m0' m2' HL.out).mono ?_
            rintro e W9 ⟨v, ch, rfl, ho, hb9, inv⟩
            replace r0 := r0.below hb9 (Nat.le_refl _)
            replace r1 := r1.below hb9 (Nat.le_refl _)
            replace r2 := r2.below hb9 (Nat.le_refl _)
            replace r3 := r3.below hb9 (Nat.le_refl _)
            replace bel := bel.trans (hb9.mono bel.size)
            obtain ⟨ac, cc, l, C, F, G, rfl, hl, r4, told⟩ := told_of ho inv
            have TOLD : Hid (Told S S' T T' l0 l2 l C F G) := told
            clear rw2 rw2' hb9 ho inv told
            go_wp2_with fail
            refine HKt.out _ _ ?_
            exact tail4 w' W9 a0' a1' a2' a3' ac l0 l2 l c0' c1' c2' c3' cc S S' C T T' F G _ _ _ _ _ _ _ _ _ _ _ _ _ _ _ _ _ _ _ _ _ _ _ _ _ _ _ _ _ _ _ _ _ _ _ _ _ _ _ _ _ _ _ _ _ _ _ _ _ _ _ _ _ _ _ _ _ _ _ _ _ _ _ _ _ _ _ _ _ _ _ _ _ _ _ _ _ _ _ _ _ _ _ _ _ _ _ _ _ _ _ _ _ _ _ _ _ _ _ _ _ _ _ _ _ _ _ _ _ _ _ _ _ _ _ _ _ _ _ _ _ _ _ _ _ _ _ _ _ _ _ _ _ _ _ _ _ _ _ _ _ _ _ _ _ _ _ _ _ _ _ _ _ _ _ _ _ _ _ _ _ _ _ _ _ _ _ _ _ _ _ _ _ _ _ _ _ _ _ _ _ _ _ _ _ _ _ _ _ _ _ _ _ _ _ _ _ _ _ _ _ _ _ _ _ _ _ _ _ _ _ _ _ _ _ _ _ _ _ _ _ _ _ _ _ _ r0 r1 r2 r3 r4 m0' m2' hl bel HL TOLD

end Go.Proofs.Qxb6003726a
