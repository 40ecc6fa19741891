import Derived.Test.Qxb6003726aMovesLaw
import Derived.Test.Qxb6003726aClones
import Derived.Deep.RegionHeld3
import Derived.Deep.AppendLies
namespace Go.Proofs.Qxb6003726a
open Go.RowKit

theorem Try.info45 : (Try.prog.info? 45).map (fun i => (i.zero, i.size, i.bytes)) = some (some (.agg #[.string ByteArray.empty, .int .u8 0, .int .u8 0]), 3, 24) := by kernel_rfl
theorem Try.info40 : (Try.prog.info? 40).map (fun i => (i.zero, i.size, i.bytes)) = some (some (.agg #[.string ByteArray.empty, .int .u8 0]), 2, 24) := by kernel_rfl

/-- A slice of placings at the head of a block. -/
def Row2 (w : World) (a : Option Addr) (len : Nat) (S : Nat → ByteArray) (T : Nat → Int) : Prop :=
  len = 0 ∨ ∃ g, a = some ⟨g, 0, none⟩ ∧ g < w.heap.size ∧ ∀ i, i < len → w.cell? ⟨g, i * 2, none⟩ = some (.string (S i)) ∧ w.cell? ⟨g, i * 2 + 1, none⟩ = some (.int .u8 (T i))

theorem Row2.at {w : World} {a : Option Addr} {len : Nat} {S : Nat → ByteArray} {T : Nat → Int} (h : Row2 w a len S T) {i : Nat} (hi : i < len) :
    ∃ g, a = some ⟨g, 0, none⟩ ∧ g < w.heap.size ∧ ∀ i, i < len → w.cell? ⟨g, i * 2, none⟩ = some (.string (S i)) ∧ w.cell? ⟨g, i * 2 + 1, none⟩ = some (.int .u8 (T i)) := by
  rcases h with h | h
  · omega
  · exact h

/-- The cells of a list of changes. -/
def chCells (ch : List (ByteArray × Int × Int)) : List Value := ch.flatMap fun c => [.string c.1, .int .u8 c.2.1, .int .u8 c.2.2]
theorem chCells_snoc (ch : List (ByteArray × Int × Int)) (s : ByteArray) (f t : Int) : chCells (ch ++ [(s, f, t)]) = chCells ch ++ [.string s, .int .u8 f, .int .u8 t] := by simp [chCells]

/-- What 'moves' hands back. -/
def Moved (S S' : Nat → ByteArray) (T T' : Nat → Int) (n m : Nat) (w : World) (e : Ending) (w' : World) : Prop :=
  ∃ v ch, e = .returned v ∧ w'.ownsRow w.heap.size 45 3 v ch.length (chCells ch) ∧ Below w.heap.size w w' ∧ Inv S S' T T' n m n m ch

/-- Behind an append of one change the relation stands again. -/
theorem moved_snoc {w wq w1 : World} {u5 : Value} {ch : List (ByteArray × Int × Int)} {gg cap : Nat} {s : ByteArray} {f t : Int} {o : Obj} (hown' : wq.ownsRow w.heap.size 45 3 u5 ch.length (chCells ch)) (hbel' : Below w.heap.size w wq)
    (hown1 : w1.ownsRow w.heap.size 45 3 (.slice (some ⟨gg, 0, none⟩) (ch.length + 1) cap) (ch.length + 1) (chCells ch ++ [.string s, .int .u8 f, .int .u8 t]))
    (hgrow : (wq.alloc o).drew.grownBy w1 u5.ownBlock) :
    w1.ownsRow w.heap.size 45 3 (.slice (some ⟨gg, 0, none⟩) (ch.length + 1) cap) (ch ++ [(s, f, t)]).length (chCells (ch ++ [(s, f, t)])) ∧ Below w.heap.size w w1 := by
  have hsz := hbel'.size
  refine ⟨by rw [chCells_snoc]; simpa using hown1, (hbel'.alloc hsz o).drew.grown hgrow (by simp; omega) (fun k e => (hown'.lt k e).1)⟩

set_option maxHeartbeats 8000000 in
set_option maxRecDepth 100000 in
theorem f33_any (a a' : Option Addr) (n m c c' : Nat) (S S' : Nat → ByteArray) (T T' : Nat → Int) (w : World) (h : Row2 w a n S T) (h' : Row2 w a' m S' T') (hn : n ≤ 1048576) (hm : m ≤ 1048576)
    (L : Lists S S' T T' n m) : Calls Try.prog 33 #[.slice a n c, .slice a' m c'] w (Moved S S' T T' n m w) := by
  obtain ⟨i0, hi0, hz0, hz1, hz2⟩ := info_parts Try.info45
  go_enter Try.func33, Try.ntmps33
  go_wp2
  go_loopw [5, 6, 7] (fun v i j wr => ∃ ch p q, i = .int .i64 (p : Nat) ∧ j = .int .i64 (q : Nat) ∧ wr.ownsRow w.heap.size 45 3 v ch.length (chCells ch) ∧ Below w.heap.size w wr ∧ Inv S S' T T' n m p q ch) (fun _ i j _ => n + m - ((intOf i).toNat + (intOf j).toNat))
  case atStart => exact ⟨[], 0, 0, rfl, rfl, World.ownsRow_nil _ _ _ _, Below.refl _ _, Inv.start⟩
  case round =>
    obtain ⟨ch, p, q, rfl, rfl, hown, hbel, inv⟩ := hrel
    have hp := inv.hi
    have hq := inv.hj
    have hlen : ch.length ≤ p + q := by rw [inv.len]; exact Nat.add_le_add (cnt_le _ _) (cnt_le _ _)
    have INV : Hid (Inv S S' T T' n m p q ch) := inv
    clear inv
    have b1 : (0 : Int) ≤ (p : Int) := by omega
    have b1' : (0 : Int) ≤ (q : Int) := by omega
    by_cases hpn : p < n
    · obtain ⟨g, rfl, hg, hc⟩ := h.at hpn
      obtain ⟨hc0, hc1⟩ := hc p hpn
      have r0 := (hbel.cell (p := ⟨g, p * 2, none⟩) hg).trans hc0
      have r1 := (hbel.cell (p := ⟨g, p * 2 + 1, none⟩) hg).trans hc1
      clear hc hc0 hc1 h
      have b2 : (p : Int) < (n : Int) := by omega
      by_cases hqm : q < m
      · obtain ⟨g', rfl, hg', hc⟩ := h'.at hqm
        obtain ⟨hc0, hc1⟩ := hc q hqm
        have r0' := (hbel.cell (p := ⟨g', q * 2, none⟩) hg').trans hc0
        have r1' := (hbel.cell (p := ⟨g', q * 2 + 1, none⟩) hg').trans hc1
        clear hc hc0 hc1 h'
        have b2' : (q : Int) < (m : Int) := by omega
        have hqe : ((q : Int) == (m : Int)) = false := by simp; omega
        have hpe : ((p : Int) == (n : Int)) = false := by simp; omega
        cases hlt1 : Op.bytesLess (S p).toList (S' q).toList with
        | true =>
          go_wp2
          go_quiet (fail)
          go_wp2
          have hown' : (wr.drewN nq).ownsRow w.heap.size 45 3 u5 ch.length (chCells ch) := hown
          have hbel' : Below w.heap.size w (wr.drewN nq) := below_drewN hbel nq
          have k0 : (wr.drewN nq).cell? ⟨g, p * 2, none⟩ = some (.string (S p)) := r0
          have k1 : (wr.drewN nq).cell? ⟨g, p * 2 + 1, none⟩ = some (.int .u8 (T p)) := r1
          clear hown hbel r0 r1
          generalize wr.drewN nq = wq at *
          clear r0' r1'
          have hsz := hbel'.size
          have ag : u5.ownBlock ≠ some g := fun e => by have := (hown'.lt g e).1; omega
          have hgq : g < wq.heap.size := by omega
          go_region_held3 (fun w' => w'.cell? ⟨g, p * 2, none⟩ = some (.string (S p)) ∧ w'.cell? ⟨g, p * 2 + 1, none⟩ = some (.int .u8 (T p)))
            (first
              | go_keep
              | (go_split_ands
                 refine ⟨?_, ?_⟩
                 · (rw [hgrow.cell_far _ (by simp; omega) (Ne.symm ag)]; assumption)
                 · (rw [hgrow.cell_far _ (by simp; omega) (Ne.symm ag)]; assumption)))
            ((refine step_append_lies _ (by rfl) _ _ _ (by rfl) w.heap.size 45 i0 _ 3 24 Try.underlying42 hi0 hz0 hz1 hz2 rfl (by omega) u5 ch.length (chCells ch) (by rfl) ((hown'.alloc _).drew) ⟨wq.heap.size, 0, none⟩ 1 1 [.string (S p), .int .u8 (T p), .int .u8 0] (by rfl) (by rfl) (World.news_of_block (cs := #[.string (S p), .int .u8 (T p), .int .u8 0]) (t := 45) (fr := (0, 0)) (heap_alloc_new wq _)) (by simp [Value.oneCell']) (by omega) (by unfold maxLen; omega) (by omega) (by simp; omega) (wq.heap.size + 1) (by simp) ?_; intro gg cap w1 hown1 hgrow hat hlt))
          go_wp2
          obtain ⟨r1, r2⟩ := moved_snoc hown' hbel' hown1 hgrow
          exact ⟨⟨ch ++ [(S p, T p, 0)], p + 1, q, by go_num, by go_num, r1, r2, INV.out.stepA L hpn (.inr hlt1)⟩, by simp [intOf]; omega⟩
        | false =>
          cases hlt2 : Op.bytesLess (S' q).toList (S p).toList with
          | true =>
            go_wp2
            go_quiet (fail)
            go_wp2
            have hown' : (wr.drewN nq).ownsRow w.heap.size 45 3 u5 ch.length (chCells ch) := hown
            have hbel' : Below w.heap.size w (wr.drewN nq) := below_drewN hbel nq
            have k0 : (wr.drewN nq).cell? ⟨g, p * 2, none⟩ = some (.string (S p)) := r0
            have k1 : (wr.drewN nq).cell? ⟨g, p * 2 + 1, none⟩ = some (.int .u8 (T p)) := r1
            have k0' : (wr.drewN nq).cell? ⟨g', q * 2, none⟩ = some (.string (S' q)) := r0'
            have k1' : (wr.drewN nq).cell? ⟨g', q * 2 + 1, none⟩ = some (.int .u8 (T' q)) := r1'
            clear hown hbel r0 r1 r0' r1'
            generalize wr.drewN nq = wq at *
            go_quiet (fail)
            go_wp2
            have hown2 : (wq.drewN nq).ownsRow w.heap.size 45 3 u5 ch.length (chCells ch) := hown'
            have hbel2 : Below w.heap.size w (wq.drewN nq) := below_drewN hbel' nq
            have j0' : (wq.drewN nq).cell? ⟨g', q * 2, none⟩ = some (.string (S' q)) := k0'
            have j1' : (wq.drewN nq).cell? ⟨g', q * 2 + 1, none⟩ = some (.int .u8 (T' q)) := k1'
            clear hown' hbel' k0' k1'
            generalize wq.drewN nq = wz at *
            clear k0 k1
            have hown' := hown2
            have hbel' := hbel2
            have hsz := hbel'.size
            have ag' : u5.ownBlock ≠ some g' := fun e => by have := (hown'.lt g' e).1; omega
            have hgq' : g' < wz.heap.size := by omega
            go_region_held3 (fun w' => w'.cell? ⟨g', q * 2, none⟩ = some (.string (S' q)) ∧ w'.cell? ⟨g', q * 2 + 1, none⟩ = some (.int .u8 (T' q)))
              (first
                | go_keep
                | (go_split_ands
                   refine ⟨?_, ?_⟩
                   · (rw [hgrow.cell_far _ (by simp; omega) (Ne.symm ag')]; assumption)
                   · (rw [hgrow.cell_far _ (by simp; omega) (Ne.symm ag')]; assumption)))
              ((refine step_append_lies _ (by rfl) _ _ _ (by rfl) w.heap.size 45 i0 _ 3 24 Try.underlying42 hi0 hz0 hz1 hz2 rfl (by omega) u5 ch.length (chCells ch) (by rfl) ((hown'.alloc _).drew) ⟨wz.heap.size, 0, none⟩ 1 1 [.string (S' q), .int .u8 0, .int .u8 (T' q)] (by rfl) (by rfl) (World.news_of_block (cs := #[.string (S' q), .int .u8 0, .int .u8 (T' q)]) (t := 45) (fr := (0, 0)) (heap_alloc_new wz _)) (by simp [Value.oneCell']) (by omega) (by unfold maxLen; omega) (by omega) (by simp; omega) (wz.heap.size + 1) (by simp) ?_; intro gg cap w1 hown1 hgrow hat hlt))
            go_wp2
            obtain ⟨r1, r2⟩ := moved_snoc hown' hbel' hown1 hgrow
            exact ⟨⟨ch ++ [(S' q, 0, T' q)], p, q + 1, by go_num, by go_num, r1, r2, INV.out.stepB L hqm (.inr hlt2)⟩, by simp [intOf]; omega⟩
          | false =>
            have HE : Hid ((S p).toList = (S' q).toList) := bl_tri _ _ hlt1 hlt2
            by_cases hTT : T p = T' q
            · have hne : (T p != T' q) = false := by simp [hTT]
              have HT : Hid (T p = T' q) := hTT
              clear hTT
              go_wp2
              go_quiet (fail)
              go_wp2
              have hown' : (wr.drewN nq).ownsRow w.heap.size 45 3 u5 ch.length (chCells ch) := hown
              have hbel' : Below w.heap.size w (wr.drewN nq) := below_drewN hbel nq
              have k0 : (wr.drewN nq).cell? ⟨g, p * 2, none⟩ = some (.string (S p)) := r0
              have k1 : (wr.drewN nq).cell? ⟨g, p * 2 + 1, none⟩ = some (.int .u8 (T p)) := r1
              have k0' : (wr.drewN nq).cell? ⟨g', q * 2, none⟩ = some (.string (S' q)) := r0'
              have k1' : (wr.drewN nq).cell? ⟨g', q * 2 + 1, none⟩ = some (.int .u8 (T' q)) := r1'
              clear hown hbel r0 r1 r0' r1'
              generalize wr.drewN nq = wq at *
              go_quiet (fail)
              go_wp2
              have hown2 : (wq.drewN nq).ownsRow w.heap.size 45 3 u5 ch.length (chCells ch) := hown'
              have hbel2 : Below w.heap.size w (wq.drewN nq) := below_drewN hbel' nq
              have l0 : (wq.drewN nq).cell? ⟨g, p * 2, none⟩ = some (.string (S p)) := k0
              have l1 : (wq.drewN nq).cell? ⟨g, p * 2 + 1, none⟩ = some (.int .u8 (T p)) := k1
              have l0' : (wq.drewN nq).cell? ⟨g', q * 2, none⟩ = some (.string (S' q)) := k0'
              have l1' : (wq.drewN nq).cell? ⟨g', q * 2 + 1, none⟩ = some (.int .u8 (T' q)) := k1'
              clear hown' hbel' k0 k1 k0' k1'
              generalize wq.drewN nq = wz at *
              go_quiet (fail)
              go_wp2
              have hst := INV.out.stepC L hpn hqm HE.out
              rw [if_pos HT.out] at hst
              exact ⟨⟨ch, p + 1, q + 1, by go_num, by go_num, hown2, below_drewN hbel2 _, hst⟩, by simp [intOf]; omega⟩
            · have hne : (T p != T' q) = true := by simp [hTT]
              have HT : Hid (¬ T p = T' q) := hTT
              clear hTT
              go_wp2
              go_quiet (fail)
              go_wp2
              have hown' : (wr.drewN nq).ownsRow w.heap.size 45 3 u5 ch.length (chCells ch) := hown
              have hbel' : Below w.heap.size w (wr.drewN nq) := below_drewN hbel nq
              have k0 : (wr.drewN nq).cell? ⟨g, p * 2, none⟩ = some (.string (S p)) := r0
              have k1 : (wr.drewN nq).cell? ⟨g, p * 2 + 1, none⟩ = some (.int .u8 (T p)) := r1
              have k0' : (wr.drewN nq).cell? ⟨g', q * 2, none⟩ = some (.string (S' q)) := r0'
              have k1' : (wr.drewN nq).cell? ⟨g', q * 2 + 1, none⟩ = some (.int .u8 (T' q)) := r1'
              clear hown hbel r0 r1 r0' r1'
              generalize wr.drewN nq = wq at *
              go_quiet (fail)
              go_wp2
              have hown2 : (wq.drewN nq).ownsRow w.heap.size 45 3 u5 ch.length (chCells ch) := hown'
              have hbel2 : Below w.heap.size w (wq.drewN nq) := below_drewN hbel' nq
              have l0 : (wq.drewN nq).cell? ⟨g, p * 2, none⟩ = some (.string (S p)) := k0
              have l1 : (wq.drewN nq).cell? ⟨g, p * 2 + 1, none⟩ = some (.int .u8 (T p)) := k1
              have l0' : (wq.drewN nq).cell? ⟨g', q * 2, none⟩ = some (.string (S' q)) := k0'
              have l1' : (wq.drewN nq).cell? ⟨g', q * 2 + 1, none⟩ = some (.int .u8 (T' q)) := k1'
              clear hown' hbel' k0 k1 k0' k1'
              generalize wq.drewN nq = wz at *
              go_quiet (fail)
              go_wp2
              have hown' : (wz.drewN nq).ownsRow w.heap.size 45 3 u5 ch.length (chCells ch) := hown2
              have hbel' : Below w.heap.size w (wz.drewN nq) := below_drewN hbel2 nq
              have j1 : (wz.drewN nq).cell? ⟨g, p * 2 + 1, none⟩ = some (.int .u8 (T p)) := l1
              have j0' : (wz.drewN nq).cell? ⟨g', q * 2, none⟩ = some (.string (S' q)) := l0'
              have j1' : (wz.drewN nq).cell? ⟨g', q * 2 + 1, none⟩ = some (.int .u8 (T' q)) := l1'
              clear hown2 hbel2 l1 l0' l1'
              generalize wz.drewN nq = wy at *
              clear l0
              have hsz := hbel'.size
              have ag : u5.ownBlock ≠ some g := fun e => by have := (hown'.lt g e).1; omega
              have ag' : u5.ownBlock ≠ some g' := fun e => by have := (hown'.lt g' e).1; omega
              have hgq : g < wy.heap.size := by omega
              have hgq' : g' < wy.heap.size := by omega
              go_region_held3 (fun w' => w'.cell? ⟨g', q * 2, none⟩ = some (.string (S' q)) ∧ w'.cell? ⟨g, p * 2 + 1, none⟩ = some (.int .u8 (T p)) ∧ w'.cell? ⟨g', q * 2 + 1, none⟩ = some (.int .u8 (T' q)))
                (first
                  | go_keep
                  | (go_split_ands
                     refine ⟨?_, ?_, ?_⟩
                     · (rw [hgrow.cell_far _ (by simp; omega) (Ne.symm ag')]; assumption)
                     · (rw [hgrow.cell_far _ (by simp; omega) (Ne.symm ag)]; assumption)
                     · (rw [hgrow.cell_far _ (by simp; omega) (Ne.symm ag')]; assumption)))
                ((refine step_append_lies _ (by rfl) _ _ _ (by rfl) w.heap.size 45 i0 _ 3 24 Try.underlying42 hi0 hz0 hz1 hz2 rfl (by omega) u5 ch.length (chCells ch) (by rfl) ((hown'.alloc _).drew) ⟨wy.heap.size, 0, none⟩ 1 1 [.string (S' q), .int .u8 (T p), .int .u8 (T' q)] (by rfl) (by rfl) (World.news_of_block (cs := #[.string (S' q), .int .u8 (T p), .int .u8 (T' q)]) (t := 45) (fr := (0, 0)) (heap_alloc_new wy _)) (by simp [Value.oneCell']) (by omega) (by unfold maxLen; omega) (by omega) (by simp; omega) (wy.heap.size + 1) (by simp) ?_; intro gg cap w1 hown1 hgrow hat hlt))
              have hst := INV.out.stepC L hpn hqm HE.out
              rw [if_neg HT.out] at hst
              go_wp2
              obtain ⟨r1, r2⟩ := moved_snoc hown' hbel' hown1 hgrow
              exact ⟨⟨ch ++ [(S' q, T p, T' q)], p + 1, q + 1, by go_num, by go_num, r1, r2, hst⟩, by simp [intOf]; omega⟩
      · have hqe : ((q : Int) == (m : Int)) = true := by simp; omega
        go_wp2
        go_quiet (fail)
        go_wp2
        have hown' : (wr.drewN nq).ownsRow w.heap.size 45 3 u5 ch.length (chCells ch) := hown
        have hbel' : Below w.heap.size w (wr.drewN nq) := below_drewN hbel nq
        have k0 : (wr.drewN nq).cell? ⟨g, p * 2, none⟩ = some (.string (S p)) := r0
        have k1 : (wr.drewN nq).cell? ⟨g, p * 2 + 1, none⟩ = some (.int .u8 (T p)) := r1
        clear hown hbel r0 r1
        generalize wr.drewN nq = wq at *
        have hsz := hbel'.size
        have ag : u5.ownBlock ≠ some g := fun e => by have := (hown'.lt g e).1; omega
        have hgq : g < wq.heap.size := by omega
        go_region_held3 (fun w' => w'.cell? ⟨g, p * 2, none⟩ = some (.string (S p)) ∧ w'.cell? ⟨g, p * 2 + 1, none⟩ = some (.int .u8 (T p)))
          (first
            | go_keep
            | (go_split_ands
               refine ⟨?_, ?_⟩
               · (rw [hgrow.cell_far _ (by simp; omega) (Ne.symm ag)]; assumption)
               · (rw [hgrow.cell_far _ (by simp; omega) (Ne.symm ag)]; assumption)))
          ((refine step_append_lies _ (by rfl) _ _ _ (by rfl) w.heap.size 45 i0 _ 3 24 Try.underlying42 hi0 hz0 hz1 hz2 rfl (by omega) u5 ch.length (chCells ch) (by rfl) ((hown'.alloc _).drew) ⟨wq.heap.size, 0, none⟩ 1 1 [.string (S p), .int .u8 (T p), .int .u8 0] (by rfl) (by rfl) (World.news_of_block (cs := #[.string (S p), .int .u8 (T p), .int .u8 0]) (t := 45) (fr := (0, 0)) (heap_alloc_new wq _)) (by simp [Value.oneCell']) (by omega) (by unfold maxLen; omega) (by omega) (by simp; omega) (wq.heap.size + 1) (by simp) ?_; intro gg cap w1 hown1 hgrow hat hlt))
        go_wp2
        obtain ⟨r1, r2⟩ := moved_snoc hown' hbel' hown1 hgrow
        exact ⟨⟨ch ++ [(S p, T p, 0)], p + 1, q, by go_num, by go_num, r1, r2, INV.out.stepA L hpn (.inl (by omega))⟩, by simp [intOf]; omega⟩
    · have hpe : ((p : Int) == (n : Int)) = true := by simp; omega
      by_cases hqm : q < m
      · obtain ⟨g', rfl, hg', hc⟩ := h'.at hqm
        obtain ⟨hc0, hc1⟩ := hc q hqm
        have r0' := (hbel.cell (p := ⟨g', q * 2, none⟩) hg').trans hc0
        have r1' := (hbel.cell (p := ⟨g', q * 2 + 1, none⟩) hg').trans hc1
        clear hc hc0 hc1 h'
        have b2' : (q : Int) < (m : Int) := by omega
        have hqe : ((q : Int) == (m : Int)) = false := by simp; omega
        have hpf : decide ((p : Int) < (n : Int)) = false := by simp; omega
        go_wp2
        go_quiet (fail)
        go_wp2
        have hown' : (wr.drewN nq).ownsRow w.heap.size 45 3 u5 ch.length (chCells ch) := hown
        have hbel' : Below w.heap.size w (wr.drewN nq) := below_drewN hbel nq
        have k0' : (wr.drewN nq).cell? ⟨g', q * 2, none⟩ = some (.string (S' q)) := r0'
        have k1' : (wr.drewN nq).cell? ⟨g', q * 2 + 1, none⟩ = some (.int .u8 (T' q)) := r1'
        clear hown hbel r0' r1'
        generalize wr.drewN nq = wq at *
        go_quiet (fail)
        go_wp2
        have hown2 : (wq.drewN nq).ownsRow w.heap.size 45 3 u5 ch.length (chCells ch) := hown'
        have hbel2 : Below w.heap.size w (wq.drewN nq) := below_drewN hbel' nq
        have j0' : (wq.drewN nq).cell? ⟨g', q * 2, none⟩ = some (.string (S' q)) := k0'
        have j1' : (wq.drewN nq).cell? ⟨g', q * 2 + 1, none⟩ = some (.int .u8 (T' q)) := k1'
        clear hown' hbel' k0' k1'
        generalize wq.drewN nq = wz at *
        have hown' := hown2
        have hbel' := hbel2
        have hsz := hbel'.size
        have ag' : u5.ownBlock ≠ some g' := fun e => by have := (hown'.lt g' e).1; omega
        have hgq' : g' < wz.heap.size := by omega
        go_region_held3 (fun w' => w'.cell? ⟨g', q * 2, none⟩ = some (.string (S' q)) ∧ w'.cell? ⟨g', q * 2 + 1, none⟩ = some (.int .u8 (T' q)))
          (first
            | go_keep
            | (go_split_ands
               refine ⟨?_, ?_⟩
               · (rw [hgrow.cell_far _ (by simp; omega) (Ne.symm ag')]; assumption)
               · (rw [hgrow.cell_far _ (by simp; omega) (Ne.symm ag')]; assumption)))
          ((refine step_append_lies _ (by rfl) _ _ _ (by rfl) w.heap.size 45 i0 _ 3 24 Try.underlying42 hi0 hz0 hz1 hz2 rfl (by omega) u5 ch.length (chCells ch) (by rfl) ((hown'.alloc _).drew) ⟨wz.heap.size, 0, none⟩ 1 1 [.string (S' q), .int .u8 0, .int .u8 (T' q)] (by rfl) (by rfl) (World.news_of_block (cs := #[.string (S' q), .int .u8 0, .int .u8 (T' q)]) (t := 45) (fr := (0, 0)) (heap_alloc_new wz _)) (by simp [Value.oneCell']) (by omega) (by unfold maxLen; omega) (by omega) (by simp; omega) (wz.heap.size + 1) (by simp) ?_; intro gg cap w1 hown1 hgrow hat hlt))
        go_wp2
        obtain ⟨r1, r2⟩ := moved_snoc hown' hbel' hown1 hgrow
        exact ⟨⟨ch ++ [(S' q, 0, T' q)], p, q + 1, by go_num, by go_num, r1, r2, INV.out.stepB L hqm (.inl (by omega))⟩, by simp [intOf]; omega⟩
      · obtain rfl : p = n := by omega
        obtain rfl : q = m := by omega
        go_wp2
        go_ret
        exact ⟨_, ch, rfl, hown, hbel, INV.out⟩

end Go.Proofs.Qxb6003726a
