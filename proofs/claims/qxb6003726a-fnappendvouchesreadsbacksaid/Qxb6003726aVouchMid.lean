import Derived.Test.Qxb6003726aVouchTail
import Derived.Test.Qxb6003726aVouchRows
import Derived.Deep.RegionHeld3
namespace Go.Proofs.Qxb6003726a
open Go.RowKit

/-- Behind a block of another's making the new element's block lies one further on. -/
theorem news_two5 (w : World) (o : Obj) (cs : Array Value) (t : TypeId) : ∀ j u, cs.toList[j]? = some u → (((w.alloc o).alloc (.cells cs t)).drew).cell? ((⟨w.heap.size + 1, 0, none⟩ : Addr).add j) = some u := by
  have h := heap_alloc_new (w.alloc o) (.cells cs t)
  rw [show (w.alloc o).heap.size = w.heap.size + 1 by simp] at h
  exact World.news_of_block (w := ((w.alloc o).alloc (.cells cs t)).drew) (B := w.heap.size + 1) (cs := cs) (t := t) (fr := (0, 0)) h

/-- Behind an append of one vouch the relation stands again. -/
theorem vouched_snoc {W wq w1 : World} {v : Value} {k gg cap : Nat} {S Z : Nat → ByteArray} {V : Nat → Nat} {o o' : Obj} (hown : wq.ownsRow W.heap.size 52 3 v k (vCells S Z V k)) (hbel : Below W.heap.size W wq)
    (hown1 : w1.ownsRow W.heap.size 52 3 (.slice (some ⟨gg, 0, none⟩) (k + 1) cap) (k + 1) (vCells S Z V k ++ [.string (S k), .string (Z k), .int .u64 (V k)]))
    (hgrow : ((wq.alloc o).alloc o').drew.grownBy w1 v.ownBlock) :
    w1.ownsRow W.heap.size 52 3 (.slice (some ⟨gg, 0, none⟩) (k + 1) cap) (k + 1) (vCells S Z V (k + 1)) ∧ Below W.heap.size W w1 := by
  have hsz := hbel.size
  exact ⟨hown1, ((hbel.alloc hsz o).alloc (by simp; omega) o').drew.grown hgrow (by simp; omega) (fun k e => (hown.lt k e).1)⟩

set_option maxHeartbeats 8000000 in
set_option maxRecDepth 100000 in
theorem mid5 (w0 W0 : World) (a0 a1 a2 a3 : Option Addr) (l0 n c0 c1 c2 c3 : Nat) (S Z : Nat → ByteArray) (P0 V : Nat → Nat) (x4 x5 x6 x7 x8 x9 x10 x11 x12 x13 x14 x15 x16 x17 x18 x19 x20 x21 x22 x23 x24 x25 x26 x27 x28 x29 x30 x31 x32 x33 x34 x35 x36 x37 x38 x39 x40 x41 x42 x43 x44 x45 x46 x47 x48 x49 x50 x51 x52 x53 x54 x55 x56 x57 x58 x59 x60 x61 x62 x63 x64 x65 x66 x67 x68 x69 x70 x71 x72 x73 x74 x75 x76 x77 x78 x79 x80 x81 x82 x83 x84 x85 x86 x87 x88 x89 x90 x91 x92 x93 x94 x95 x96 x97 x98 x99 x100 x101 x102 x103 x104 x105 x106 x107 x108 x109 x110 x111 x112 x113 x114 x115 x116 x117 x118 x119 x120 x121 x122 x123 x124 x125 x126 x127 x128 x129 x130 x131 x132 x133 x134 x135 x136 x137 x138 x139 x140 x141 x142 x143 x144 x145 x146 x147 x148 x149 x150 x151 x152 x153 x154 x155 x156 x157 x158 x159 x160 x161 x162 x163 x164 x165 x166 x167 x168 x169 x170 x171 x172 x173 x174 x175 x176 x177 x178 x179 x180 x181 x182 x183 x184 x185 x186 x187 x188 x189 x190 x191 x192 x193 x194 x195 x196 x197 x198 x199 x200 x201 x202 x203 x204 x205 x206 x207 x208 x209 x210 x211 x212 x213 x214 x215 x216 x217 x218 x219 x220 x221 x222 x223 x224 x225 x226 x227 x228 x229 x230 x231 x232 x233 x234 x235 x236 x237 x238 x239 x240 x241 x242 x243 x244 x245 x246 x247 x248 x249 x250 x251 x252 x253 x254 x255 x256 x257 x258 x259 : Value)
    (r0 : Row W0 a0 l0 fun i => .int .u8 (P0 i)) (t1 : Row W0 a1 n fun i => .string (S i)) (t2 : Row W0 a2 n fun i => .string (Z i)) (t3 : Row W0 a3 n fun i => .int .u64 (V i))
    (m0 : l0 ≤ 1048576) (hn : n ≤ 4096) (hS : ∀ i, i < n → (S i).size ≤ 1048576) (hZ : ∀ i, i < n → (Z i).size ≤ 1048576) (HV : Hid (∀ i, i < n → V i < 18446744073709551616)) (bel : Below w0.heap.size w0 W0) :
    Code.wp Try.prog ((Try.f5.body.bind (tailAt 11)).getD .skip) (bodyPost Try.prog Try.f5 (Yes w0)) ⟨#[.slice a0 l0 c0, .slice a1 n c1, .slice a2 n c2, .slice a3 n c3, x4, x5, x6, x7, x8, x9, x10, x11, x12, x13, x14, x15, x16, x17, x18, x19, x20, x21, x22, x23, x24, x25, x26, x27, x28, x29, x30, x31, x32, x33, x34, x35, x36, x37, x38, x39, x40, x41, x42, x43, x44, x45, x46, x47, x48, x49, x50, x51, x52, x53, x54, x55, x56, x57, x58, x59, x60, x61, x62, x63, x64, x65, x66, x67, x68, x69, x70, x71, x72, x73, x74, x75, x76, x77, x78, x79, x80, x81, x82, x83, x84, x85, x86, x87, x88, x89, x90, x91, x92, x93, x94, x95, x96, x97, x98, x99, x100, x101, x102, x103, x104, x105, x106, x107, x108, x109, x110, x111, x112, x113, x114, x115, x116, x117, x118, x119, x120, x121, x122, x123, x124, x125, x126, x127, x128, x129, x130, x131, x132, x133, x134, x135, x136, x137, x138, x139, x140, x141, x142, x143, x144, x145, x146, x147, x148, x149, x150, x151, x152, x153, x154, x155, x156, x157, x158, x159, x160, x161, x162, x163, x164, x165, x166, x167, x168, x169, x170, x171, x172, x173, x174, x175, x176, x177, x178, x179, x180, x181, x182, x183, x184, x185, x186, x187, x188, x189, x190, x191, x192, x193, x194, x195, x196, x197, x198, x199, x200, x201, x202, x203, x204, x205, x206, x207, x208, x209, x210, x211, x212, x213, x214, x215, x216, x217, x218, x219, x220, x221, x222, x223, x224, x225, x226, x227, x228, x229, x230, x231, x232, x233, x234, x235, x236, x237, x238, x239, x240, x241, x242, x243, x244, x245, x246, x247, x248, x249, x250, x251, x252, x253, x254, x255, x256, x257, x258, x259], []⟩ W0 := by
  conv => arg 2; whnf
  go_wp2_with fail
  refine (f16_any a1 n c1 S _ t1 (by omega)).mono ?_
  rintro e W1 ⟨a1', c1', rfl, r1, bel1⟩
  replace r0 := r0.below bel1 (Nat.le_refl _)
  replace t2 := t2.below bel1 (Nat.le_refl _)
  replace t3 := t3.below bel1 (Nat.le_refl _)
  replace bel := bel.trans (bel1.mono bel.size)
  clear bel1 t1
  go_wp2_with fail
  refine (f16_any a2 n c2 Z _ t2 (by omega)).mono ?_
  rintro e W2 ⟨a2', c2', rfl, r2, bel1⟩
  replace r0 := r0.below bel1 (Nat.le_refl _)
  replace r1 := r1.below bel1 (Nat.le_refl _)
  replace t3 := t3.below bel1 (Nat.le_refl _)
  replace bel := bel.trans (bel1.mono bel.size)
  clear bel1 t2
  go_wp2_with fail
  refine (f8_any a3 n c3 (fun i => (V i : Int)) _ t3 (by omega)).mono ?_
  rintro e W4 ⟨a3', c3', rfl, r3, bel1⟩
  replace r0 := r0.below bel1 (Nat.le_refl _)
  replace r1 := r1.below bel1 (Nat.le_refl _)
  replace r2 := r2.below bel1 (Nat.le_refl _)
  replace bel := bel.trans (bel1.mono bel.size)
  clear bel1 t3
  obtain ⟨i0, hi0, hz0, hz1, hz2⟩ := info_parts Try.info52
  go_wp2_with (at_make; refine wpList_make_own _ rfl _ _ 48 rfl W4.heap.size 52 i0 _ 3 Try.underlying48 hi0 hz0 hz1 _ _ _ n rfl rfl (by omega) (by rw [hz2]; omega) (by unfold maxLen; omega) (Nat.le_refl _) ?_; intro W5 hown hgrow)
  have hbel5 : Below W4.heap.size W4 W5 := (Below.refl _ _).grown hgrow (Nat.le_refl _) (by simp)
  clear hgrow
  go_loopw [10, 11] (fun v i wr => ∃ k : Nat, k ≤ n ∧ i = .int .i64 k ∧ wr.ownsRow W4.heap.size 52 3 v k (vCells S Z V k) ∧ Below W4.heap.size W4 wr) (fun _ i _ => n - (intOf i).toNat)
  case atStart => exact ⟨0, Nat.zero_le _, rfl, hown, hbel5⟩
  case round =>
    clear hown hbel5
    obtain ⟨k, hk, rfl, hown, hbelr⟩ := hrel
    have hsz := hbelr.size
    by_cases hlt : k < n
    · obtain ⟨b, off, rfl, hbl, hc⟩ := r1.at hlt
      obtain ⟨b', off', rfl, hbl', hc'⟩ := r2.at hlt
      obtain ⟨b'', off'', rfl, hbl'', hc''⟩ := r3.at hlt
      have hr0 := (hbelr.cell (p := ⟨b, off + k, none⟩) hbl).trans (hc k hlt)
      have hr1 := (hbelr.cell (p := ⟨b', off' + k, none⟩) hbl').trans (hc' k hlt)
      have hr2 := (hbelr.cell (p := ⟨b'', off'' + k, none⟩) hbl'').trans (hc'' k hlt)
      clear hc hc' hc'' r0 r1 r2 r3 bel HV hS hZ
      have ag : u10.ownBlock ≠ some b := fun e => by have := (hown.lt b e).1; omega
      have ag' : u10.ownBlock ≠ some b' := fun e => by have := (hown.lt b' e).1; omega
      have ag'' : u10.ownBlock ≠ some b'' := fun e => by have := (hown.lt b'' e).1; omega
      have g1 : b < wr.heap.size := by omega
      have g2 : b' < wr.heap.size := by omega
      have g3 : b'' < wr.heap.size := by omega
      have b1 : (0 : Int) ≤ (k : Int) := by omega
      have b2 : (k : Int) < (n : Int) := by omega
      go_wp2_with fail
      go_region_held3 (fun w' => w'.cell? ⟨b, off + k, none⟩ = some (.string (S k)) ∧ w'.cell? ⟨b', off' + k, none⟩ = some (.string (Z k)) ∧ w'.cell? ⟨b'', off'' + k, none⟩ = some (.int .u64 (V k)))
        (first
          | go_keep
          | (go_split_ands
             refine ⟨?_, ?_, ?_⟩
             · (rw [hgrow.cell_far _ (by simp; omega) (Ne.symm ag)]; assumption)
             · (rw [hgrow.cell_far _ (by simp; omega) (Ne.symm ag')]; assumption)
             · (rw [hgrow.cell_far _ (by simp; omega) (Ne.symm ag'')]; assumption)))
        (first
          | (go_at_call 22; refine (f22_any _ _ _ _).mono ?_; rintro e w' ⟨rfl, o, rfl⟩)
          | ((refine step_append_lies _ (by rfl) _ _ _ (by rfl) W4.heap.size 52 i0 _ 3 40 Try.underlying48 hi0 hz0 hz1 hz2 rfl (by omega) u10 k (vCells S Z V k) (by rfl) (((hown.alloc _).alloc _).drew) ⟨wr.heap.size + 1, 0, none⟩ 1 1 [.string (S k), .string (Z k), .int .u64 (V k)] (by rfl) (by rfl) (news_two5 _ _ #[.string (S k), .string (Z k), .int .u64 (V k)] 52) (by simp [Value.oneCell']) (by omega) (by unfold maxLen; omega) (by omega) (by simp; omega) (wr.heap.size + 2) (by simp) ?_; intro gg cap w1 hown1 hgrow hat hlt)))
      go_wp2
      obtain ⟨q1, q2⟩ := vouched_snoc hown hbelr hown1 hgrow
      exact ⟨⟨k + 1, by omega, by go_num, q1, q2⟩, by simp [intOf]; omega⟩
    · have hkl : n = k := by omega
      subst hkl
      obtain ⟨av, cv, rfl, hcv, vs⟩ := owns_vslice hown
      replace r0 := r0.below hbelr (Nat.le_refl _)
      replace r1 := r1.below hbelr (Nat.le_refl _)
      replace r2 := r2.below hbelr (Nat.le_refl _)
      replace r3 := r3.below hbelr (Nat.le_refl _)
      replace bel := bel.trans (hbelr.mono bel.size)
      clear hown hbelr hsz hk hlt
      obtain ⟨W7, hW7⟩ : ∃ x, x = wr := ⟨wr, rfl⟩
      subst hW7
      obtain ⟨w1, W8, hmk, hcp, hblk, hbel8, _⟩ := clone_runs 30 5 Try.underlying30 Try.info5 (by omega) a0 l0 c0 (fun i => .int .u8 (P0 i)) W7 r0 (fun _ _ => rfl) (by omega)
      have HB := show Hid _ from hblk
      clear hblk
      have hs8 := hbel8.size
      go_upto_region 21 with fail
      rename_i Kt hKt
      have HKt := show Hid _ from hKt
      clear hKt hmk hcp
      replace vs := vs.below hbel8
      have howb : W8.ownsRow W7.heap.size 5 1 (.slice (some ⟨W7.heap.size, 0, none⟩) l0 l0) l0 (cellsOf (fun i => .int .u8 (P0 i)) l0) := owns_of_block HB.out (Nat.le_refl _) (by omega)
      clear HB
      go_wp2_with fail
      refine (f23_any W7.heap.size n cv l0 av S Z V _ _ W8 vs hs8 hn hcv howb (by omega) hS hZ HV).mono ?_
      rintro e W9 ⟨v, rfl, ho, hb9⟩
      obtain ⟨ao, co, rfl, hco, ro⟩ := out_row ho
      have hb79 := hbel8.trans hb9
      replace r0 := r0.below hb79 (Nat.le_refl _)
      replace r1 := r1.below hb79 (Nat.le_refl _)
      replace r2 := r2.below hb79 (Nat.le_refl _)
      replace r3 := r3.below hb79 (Nat.le_refl _)
      replace bel := bel.trans (hb79.mono bel.size)
      have HD : Hid (Lies (outD P0 l0 (Lib.uvarint (cnt (start S) n) ++ enc S Z V n n)) l0 (Lib.uvarint (cnt (start S) n) ++ enc S Z V n n)) := outD_lies _ _ _
      have HLO : Hid (l0 + (Lib.uvarint (cnt (start S) n) ++ enc S Z V n n).length = l0 + (Lib.uvarint (cnt (start S) n) ++ enc S Z V n n).length) := rfl
      have hpre := outD_pre P0 l0 (Lib.uvarint (cnt (start S) n) ++ enc S Z V n n)
      clear ho hb9 hb79 hbel8 vs howb
      generalize outD P0 l0 (Lib.uvarint (cnt (start S) n) ++ enc S Z V n n) = D at *
      generalize hlo : l0 + (Lib.uvarint (cnt (start S) n) ++ enc S Z V n n).length = lo at *
      have HLO2 : Hid (lo = l0 + (Lib.uvarint (cnt (start S) n) ++ enc S Z V n n).length) := hlo.symm
      clear hlo HLO
      go_wp2_with fail
      refine HKt.out _ _ ?_
      exact tail5 w0 W9 a0 a1' a2' a3' ao l0 n lo c0 c1' c2' c3' co S Z P0 V D _ _ _ _ _ _ _ _ _ _ _ _ _ _ _ _ _ _ _ _ _ _ _ _ _ _ _ _ _ _ _ _ _ _ _ _ _ _ _ _ _ _ _ _ _ _ _ _ _ _ _ _ _ _ _ _ _ _ _ _ _ _ _ _ _ _ _ _ _ _ _ _ _ _ _ _ _ _ _ _ _ _ _ _ _ _ _ _ _ _ _ _ _ _ _ _ _ _ _ _ _ _ _ _ _ _ _ _ _ _ _ _ _ _ _ _ _ _ _ _ _ _ _ _ _ _ _ _ _ _ _ _ _ _ _ _ _ _ _ _ _ _ _ _ _ _ _ _ _ _ _ _ _ _ _ _ _ _ _ _ _ _ _ _ _ _ _ _ _ _ _ _ _ _ _ _ _ _ _ _ _ _ _ _ _ _ _ _ _ _ _ _ _ _ _ _ _ _ _ _ _ _ _ _ _ _ _ _ _ _ _ _ _ _ _ _ _ _ _ _ _ _ _ _ _ _ _ _ _ _ _ _ _ _ _ _ _ _ _ _ _ _ _ _ _ _ _ _ _ _ _ _ _ _ _ r0 r1 r2 r3 ro m0 hn hS hZ HV hco HLO2 hpre HD bel

end Go.Proofs.Qxb6003726a
