import Derived.Test.Qxb6003726aVouches
import Derived.Test.Qxb6003726aCut
namespace Go.Proofs.Qxb6003726a
open Go.RowKit

set_option maxHeartbeats 8000000 in
set_option maxRecDepth 100000 in
theorem tail5 (w0 W9 : World) (a0 a1 a2 a3 ao : Option Addr) (l0 n lo c0 c1 c2 c3 co : Nat) (S Z : Nat → ByteArray) (P0 V D : Nat → Nat) (x4 x5 x6 x7 x8 x9 x10 x11 x12 x14 x15 x16 x17 x18 x19 x20 x21 x22 x23 x24 x25 x26 x27 x28 x29 x30 x31 x32 x33 x34 x35 x36 x37 x38 x39 x40 x41 x42 x43 x44 x45 x46 x47 x48 x49 x50 x51 x52 x53 x54 x55 x56 x57 x58 x59 x60 x61 x62 x63 x64 x65 x66 x67 x68 x69 x70 x71 x72 x73 x74 x75 x76 x77 x78 x79 x80 x81 x82 x83 x84 x85 x86 x87 x88 x89 x90 x91 x92 x93 x94 x95 x96 x97 x98 x99 x100 x101 x102 x103 x104 x105 x106 x107 x108 x109 x110 x111 x112 x113 x114 x115 x116 x117 x118 x119 x120 x121 x122 x123 x124 x125 x126 x127 x128 x129 x130 x131 x132 x133 x134 x135 x136 x137 x138 x139 x140 x141 x142 x143 x144 x145 x146 x147 x148 x149 x150 x151 x152 x153 x154 x155 x156 x157 x158 x159 x160 x161 x162 x163 x164 x165 x166 x167 x168 x169 x170 x171 x172 x173 x174 x175 x176 x177 x178 x179 x180 x181 x182 x183 x184 x185 x186 x187 x188 x189 x190 x191 x192 x193 x194 x195 x196 x197 x198 x199 x200 x201 x202 x203 x204 x205 x206 x207 x208 x209 x210 x211 x212 x213 x214 x215 x216 x217 x218 x219 x220 x221 x222 x223 x224 x225 x226 x227 x228 x229 x230 x231 x232 x233 x234 x235 x236 x237 x238 x239 x240 x241 x242 x243 x244 x245 x246 x247 x248 x249 x250 x251 x252 x253 x254 x255 x256 x257 x258 x259 : Value)
    (r0 : Row W9 a0 l0 fun i => .int .u8 (P0 i)) (r1 : Row W9 a1 n fun i => .string (S i)) (r2 : Row W9 a2 n fun i => .string (Z i)) (r3 : Row W9 a3 n fun i => .int .u64 (V i)) (ro : Row W9 ao lo fun i => .int .u8 (D i))
    (m0 : l0 ≤ 1048576) (hn : n ≤ 4096) (hS : ∀ i, i < n → (S i).size ≤ 1048576) (hZ : ∀ i, i < n → (Z i).size ≤ 1048576) (HV : Hid (∀ i, i < n → V i < 18446744073709551616)) (hco : lo ≤ co)
    (HLO : Hid (lo = l0 + (Lib.uvarint (cnt (start S) n) ++ enc S Z V n n).length)) (hpre : ∀ i, i < l0 → D i = P0 i) (HD : Hid (Lies D l0 (Lib.uvarint (cnt (start S) n) ++ enc S Z V n n))) (bel : Below w0.heap.size w0 W9) :
    Code.wp Try.prog ((Try.f5.body.bind (tailAt 22)).getD .skip) (bodyPost Try.prog Try.f5 (Yes w0)) ⟨#[.slice a0 l0 c0, .slice a1 n c1, .slice a2 n c2, .slice a3 n c3, x4, x5, x6, x7, x8, x9, x10, x11, x12, .slice ao lo co, x14, x15, x16, x17, x18, x19, x20, x21, x22, x23, x24, x25, x26, x27, x28, x29, x30, x31, x32, x33, x34, x35, x36, x37, x38, x39, x40, x41, x42, x43, x44, x45, x46, x47, x48, x49, x50, x51, x52, x53, x54, x55, x56, x57, x58, x59, x60, x61, x62, x63, x64, x65, x66, x67, x68, x69, x70, x71, x72, x73, x74, x75, x76, x77, x78, x79, x80, x81, x82, x83, x84, x85, x86, x87, x88, x89, x90, x91, x92, x93, x94, x95, x96, x97, x98, x99, x100, x101, x102, x103, x104, x105, x106, x107, x108, x109, x110, x111, x112, x113, x114, x115, x116, x117, x118, x119, x120, x121, x122, x123, x124, x125, x126, x127, x128, x129, x130, x131, x132, x133, x134, x135, x136, x137, x138, x139, x140, x141, x142, x143, x144, x145, x146, x147, x148, x149, x150, x151, x152, x153, x154, x155, x156, x157, x158, x159, x160, x161, x162, x163, x164, x165, x166, x167, x168, x169, x170, x171, x172, x173, x174, x175, x176, x177, x178, x179, x180, x181, x182, x183, x184, x185, x186, x187, x188, x189, x190, x191, x192, x193, x194, x195, x196, x197, x198, x199, x200, x201, x202, x203, x204, x205, x206, x207, x208, x209, x210, x211, x212, x213, x214, x215, x216, x217, x218, x219, x220, x221, x222, x223, x224, x225, x226, x227, x228, x229, x230, x231, x232, x233, x234, x235, x236, x237, x238, x239, x240, x241, x242, x243, x244, x245, x246, x247, x248, x249, x250, x251, x252, x253, x254, x255, x256, x257, x258, x259], []⟩ W9 := by
  conv => arg 2; whnf
  have hG : cnt (start S) n ≤ n := cnt_le _ _
  have hU := Lib.uvarint_length64 (x := cnt (start S) n) (by omega)
  have hE := enc_le (n := n) (by omega) hS hZ HV.out n (Nat.le_refl _)
  have hEg := enc_ge (S := S) (Z := Z) (V := V) (n := n) n
  have hlo1 : lo = l0 + (Lib.uvarint (cnt (start S) n)).length + (enc S Z V n n).length := by rw [HLO.out, List.length_append, Nat.add_assoc]
  have hlo2 : lo ≤ 10000000000 := by omega
  have hlo3 : l0 + (Lib.uvarint (cnt (start S) n)).length ≤ lo := by omega
  have hlo4 : cnt (start S) n ≤ lo := by omega
  have hlo5 : l0 ≤ lo := by omega
  have HLO1 : Hid (lo = l0 + (Lib.uvarint (cnt (start S) n)).length + (enc S Z V n n).length) := hlo1
  clear hlo1 HLO hU hE hEg
  have HDU : Hid (Lies D l0 (Lib.uvarint (cnt (start S) n))) := HD.out.left
  have HDE : Hid (Lies D (l0 + (Lib.uvarint (cnt (start S) n)).length) (enc S Z V n n)) := HD.out.right
  clear HD
  go_wp2_with fail
  go_loopw [14] (fun i wr => ∃ k : Nat, k ≤ l0 ∧ i = .int .i64 k ∧ ∃ q, wr = W9.drewN q) (fun i _ => l0 - (intOf i).toNat)
  case atStart => exact ⟨0, Nat.zero_le _, rfl, 0, rfl⟩
  case round =>
    obtain ⟨k, hk, rfl, q, rfl⟩ := hrel
    by_cases hlt : k < l0
    · obtain ⟨b, off, rfl, hbl, hc⟩ := r0.at hlt
      obtain ⟨b', off', rfl, hbl', hc'⟩ := ro.at (i := k) (by omega)
      have d0 := hc k hlt
      have d1 := hc' k (by omega)
      rw [hpre k hlt] at d1
      have b1 : (0 : Int) ≤ (k : Int) := by omega
      have b2 : (k : Int) < (l0 : Int) := by omega
      have b3 : (k : Int) < (lo : Int) := by omega
      have b4 : k ≤ 1048576 := by omega
      clear hc hc'
      go_wp2_with fail
      go_quiet (fail)
      go_wp2_with fail
      go_roundw
      case rel => exact ⟨k + 1, by omega, by go_num, _, rfl⟩
      case measure => simp [intOf]; omega
    · have bel' : Below w0.heap.size w0 (W9.drewN q) := below_drewN bel q
      have s1 : Row (W9.drewN q) a1 n fun i => .string (S i) := r1
      have s2 : Row (W9.drewN q) a2 n fun i => .string (Z i) := r2
      have s3 : Row (W9.drewN q) a3 n fun i => .int .u64 (V i) := r3
      have so : Row (W9.drewN q) ao lo fun i => .int .u8 (D i) := ro
      clear r0 r1 r2 r3 ro bel hpre
      generalize W9.drewN q = W at *
      go_wp2_with fail
      refine (f24_any ao lo co l0 (cnt (start S) n) D W so (by omega) (by omega) hlo3 HDU.out).mono ?_
      rintro e w' ⟨rfl, rfl⟩
      generalize hP : l0 + (Lib.uvarint (cnt (start S) n)).length = P at *
      clear hP HDU hlt hk
      have hdl : decide (lo < cnt (start S) n) = false := by simp; omega
      go_wp2_with fail
      go_loopw [16, 18, 19, 20] (fun vp vk vq vg wr => ∃ (i p : Nat) (q : ByteArray), AtRun S n i ∧ Hid (p = P + (enc S Z V n i).length) ∧ vp = .int .i64 p ∧ vk = .int .i64 i ∧ vg = .int .u64 (cnt (start S) i : Nat) ∧ vq = .string q ∧ Hid (0 < i → q.toList = (S (i - 1)).toList) ∧ wr = w') (fun _ vk _ _ _ => n - (intOf vk).toNat)
      case atStart => exact ⟨0, P, _, ⟨Nat.zero_le _, fun _ => rfl⟩, rfl, rfl, rfl, rfl, rfl, (fun h => by omega), rfl⟩
      case round =>
        obtain ⟨i, p, q, hat, HP, rfl, rfl, rfl, rfl, HQ, hw⟩ := hrel
        subst wr
        have hci := cnt_le (start S) i
        have hin := hat.1
        by_cases hlt : i < n
        · have hst := hat.2 hlt
          have hrun := run_at S hlt
          have hcn : cnt (start S) i < cnt (start S) n := by
            have h1 := cnt_mono (start S) (show i + 1 ≤ n from hlt)
            simp only [cnt, hst] at h1
            simp at h1
            omega
          obtain ⟨L1, L2, L3⟩ := enc_lies (n := n) HDE.out hlt
          have hhd : hdr S n i = idb (S i) ++ Lib.uvarint (rl S n i) := by simp [hdr, hst]
          rw [hhd] at L1 L3
          rw [← HP.out] at L1
          rw [List.length_append] at L3
          have LS := L1.left
          have LR := L1.right
          have hSi := hS i hlt
          have hr1 := hrun.pos
          have hr2 := hrun.fits
          have hb1 : p + (idb (S i)).length + (Lib.uvarint (rl S n i)).length ≤ lo := by have h1 := HP.out; have h2 := HLO1.out; omega
          have HP2 : Hid (p + (idb (S i)).length + (Lib.uvarint (rl S n i)).length = P + (encIn S Z V n i 0).length) := by
            unfold Hid
            rw [encIn_zero hst, List.length_append, List.length_append, HP.out]; omega
          have HCR : Hid (cnt (start S) (i + rl S n i) = cnt (start S) i + 1) := cnt_run hrun hst
          have HLS : Hid (Lies D p (idb (S i))) := LS
          have HLR : Hid (Lies D (p + (idb (S i)).length) (Lib.uvarint (rl S n i))) := LR
          have HST : Hid (start S i = true) := hst
          have HRUN : Hid (Run S n i (rl S n i)) := hrun
          clear L1 L2 L3 hhd LS LR hst hrun hat
          generalize rl S n i = r at *
          go_wp2_with fail
          refine (f25_any ao lo co p (S i) D w' so (by omega) hco hSi (by omega) HLS.out).mono ?_
          rintro e w2 ⟨rfl, rfl⟩
          generalize hp1 : p + (idb (S i)).length = p1 at *
          clear hp1
          have hr0 : ((r : Int) == 0) = false := by simp; omega
          by_cases hi0 : i = 0
          · have hgd : decide ((0 : Int) < ((cnt (start S) i : Nat) : Int)) = false := by rw [hi0]; rfl
            have hgd2 : decide (0 < cnt (start S) i) = false := by rw [hi0]; rfl
            clear hi0
            go_wp2_with fail
            refine (f24_any ao lo co p1 r D w2 so (by omega) (by omega) hb1 HLR.out).mono ?_
            rintro e w3 ⟨rfl, rfl⟩
            generalize hp2 : p1 + (Lib.uvarint r).length = p2 at *
            clear hp2 HLR HLS
            go_wp2_with fail
            go_loopw [16, 18, 27] (fun vp vk vt wr => ∃ t p : Nat, t ≤ r ∧ Hid (p = P + (encIn S Z V n i t).length) ∧ vp = .int .i64 p ∧ vk = .int .i64 (i + t : Nat) ∧ vt = .int .u64 t ∧ wr = w3) (fun _ _ vt _ => r - (intOf vt).toNat)
            case atStart => exact ⟨0, p2, Nat.zero_le _, HP2, rfl, rfl, rfl, rfl⟩
            case round =>
              obtain ⟨t, p3, ht, HP3, rfl, rfl, rfl, hw⟩ := hrel
              subst wr
              by_cases htr : t < r
              · have hit : i + t < n := by omega
                obtain ⟨-, L2, L3⟩ := enc_lies (n := n) HDE.out hit
                have hel := encIn_length (Z := Z) (V := V) HRUN.out htr
                rw [bdy, List.length_append] at L3
                have L2' : Lies D p3 (idb (Z (i + t)) ++ Lib.uvarint (V (i + t))) := L2.shift (by rw [HP3.out, hel]; omega)
                have hfit : p3 + (idb (Z (i + t))).length + (Lib.uvarint (V (i + t))).length ≤ lo := by have h1 := HP3.out; have h2 := HLO1.out; omega
                have HES : Hid (p3 + (idb (Z (i + t))).length + (Lib.uvarint (V (i + t))).length = P + (encIn S Z V n i (t + 1)).length) := by
                  unfold Hid
                  rw [encIn_succ HRUN.out htr, bdy, List.length_append, List.length_append, HP3.out]; omega
                have H1 : Hid (Lies D p3 (idb (Z (i + t)))) := L2'.left
                have H2 : Hid (Lies D (p3 + (idb (Z (i + t))).length) (Lib.uvarint (V (i + t)))) := L2'.right
                have HVk : Hid (V (i + t) < 18446744073709551616) := HV.out _ hit
                have hZk := hZ (i + t) hit
                have he1 : ((S i).toList == (S (i + t)).toList) = true := by rw [HRUN.out.same t htr]; simp
                obtain ⟨g1, o1, rfl, -, q1⟩ := s1.at hit
                obtain ⟨g2, o2, rfl, -, q2⟩ := s2.at hit
                obtain ⟨g3, o3, rfl, -, q3⟩ := s3.at hit
                have z1 := q1 (i + t) hit
                have z2 := q2 (i + t) hit
                have z3 := q3 (i + t) hit
                have b1 : (0 : Int) ≤ (i : Int) + (t : Int) := by omega
                have b2 : (i : Int) + (t : Int) < (n : Int) := by omega
                have b3 : i ≤ 4096 := by omega
                have b4 : t ≤ 4096 := by omega
                clear L2 L2' L3 hel q1 q2 q3
                go_wp2_with fail
                refine (f25_any ao lo co p3 (Z (i + t)) D w3 so (by omega) hco hZk (by omega) H1.out).mono ?_
                rintro e w4 ⟨rfl, rfl⟩
                generalize hp4 : p3 + (idb (Z (i + t))).length = p4 at *
                clear hp4
                go_wp2_with fail
                refine (f24_any ao lo co p4 (V (i + t)) D w4 so (by omega) HVk.out hfit H2.out).mono ?_
                rintro e w5 ⟨rfl, rfl⟩
                generalize hp5 : p4 + (Lib.uvarint (V (i + t))).length = p5 at *
                clear hp5
                go_wp2_with fail
                go_roundw
                case rel => exact ⟨t + 1, p5, by omega, HES, rfl, by go_num, by go_num, trivial⟩
                case measure => simp [intOf]; omega
              · have hrt : r = t := by omega
                subst hrt
                have HE : Hid (p3 = P + (enc S Z V n (i + r)).length) := by rw [← encIn_full hr1]; exact HP3
                have HQ2 : Hid (0 < i + r → (S i).toList = (S (i + r - 1)).toList) := fun _ => by rw [show i + r - 1 = i + (r - 1) by omega, HRUN.out.same (r - 1) (by omega)]
                have hat2 : AtRun S n (i + r) := AtRun.next HRUN.out
                clear htr ht HP3
                go_wp2_with fail
                go_roundw
                case rel => exact ⟨i + r, p3, _, hat2, HE, rfl, rfl, by rw [HCR.out]; go_num, rfl, HQ2, trivial⟩
                case measure => simp [intOf]; omega
          · have hcp : 0 < cnt (start S) i := by
              have h1 := cnt_mono (start S) (show 1 ≤ i by omega)
              have h2 : cnt (start S) 1 = 1 := rfl
              omega
            have hqs : ((S i).toList == q.toList) = false := by
              have h1 := HST.out
              rw [HQ.out (by omega)]
              simpa [start, hi0] using h1
            go_wp2_with fail
            refine (f24_any ao lo co p1 r D w2 so (by omega) (by omega) hb1 HLR.out).mono ?_
            rintro e w3 ⟨rfl, rfl⟩
            generalize hp2 : p1 + (Lib.uvarint r).length = p2 at *
            clear hp2 HLR HLS
            go_wp2_with fail
            go_loopw [16, 18, 27] (fun vp vk vt wr => ∃ t p : Nat, t ≤ r ∧ Hid (p = P + (encIn S Z V n i t).length) ∧ vp = .int .i64 p ∧ vk = .int .i64 (i + t : Nat) ∧ vt = .int .u64 t ∧ wr = w3) (fun _ _ vt _ => r - (intOf vt).toNat)
            case atStart => exact ⟨0, p2, Nat.zero_le _, HP2, rfl, rfl, rfl, rfl⟩
            case round =>
              obtain ⟨t, p3, ht, HP3, rfl, rfl, rfl, hw⟩ := hrel
              subst wr
              by_cases htr : t < r
              · have hit : i + t < n := by omega
                obtain ⟨-, L2, L3⟩ := enc_lies (n := n) HDE.out hit
                have hel := encIn_length (Z := Z) (V := V) HRUN.out htr
                rw [bdy, List.length_append] at L3
                have L2' : Lies D p3 (idb (Z (i + t)) ++ Lib.uvarint (V (i + t))) := L2.shift (by rw [HP3.out, hel]; omega)
                have hfit : p3 + (idb (Z (i + t))).length + (Lib.uvarint (V (i + t))).length ≤ lo := by have h1 := HP3.out; have h2 := HLO1.out; omega
                have HES : Hid (p3 + (idb (Z (i + t))).length + (Lib.uvarint (V (i + t))).length = P + (encIn S Z V n i (t + 1)).length) := by
                  unfold Hid
                  rw [encIn_succ HRUN.out htr, bdy, List.length_append, List.length_append, HP3.out]; omega
                have H1 : Hid (Lies D p3 (idb (Z (i + t)))) := L2'.left
                have H2 : Hid (Lies D (p3 + (idb (Z (i + t))).length) (Lib.uvarint (V (i + t)))) := L2'.right
                have HVk : Hid (V (i + t) < 18446744073709551616) := HV.out _ hit
                have hZk := hZ (i + t) hit
                have he1 : ((S i).toList == (S (i + t)).toList) = true := by rw [HRUN.out.same t htr]; simp
                obtain ⟨g1, o1, rfl, -, q1⟩ := s1.at hit
                obtain ⟨g2, o2, rfl, -, q2⟩ := s2.at hit
                obtain ⟨g3, o3, rfl, -, q3⟩ := s3.at hit
                have z1 := q1 (i + t) hit
                have z2 := q2 (i + t) hit
                have z3 := q3 (i + t) hit
                have b1 : (0 : Int) ≤ (i : Int) + (t : Int) := by omega
                have b2 : (i : Int) + (t : Int) < (n : Int) := by omega
                have b3 : i ≤ 4096 := by omega
                have b4 : t ≤ 4096 := by omega
                clear L2 L2' L3 hel q1 q2 q3
                go_wp2_with fail
                refine (f25_any ao lo co p3 (Z (i + t)) D w3 so (by omega) hco hZk (by omega) H1.out).mono ?_
                rintro e w4 ⟨rfl, rfl⟩
                generalize hp4 : p3 + (idb (Z (i + t))).length = p4 at *
                clear hp4
                go_wp2_with fail
                refine (f24_any ao lo co p4 (V (i + t)) D w4 so (by omega) HVk.out hfit H2.out).mono ?_
                rintro e w5 ⟨rfl, rfl⟩
                generalize hp5 : p4 + (Lib.uvarint (V (i + t))).length = p5 at *
                clear hp5
                go_wp2_with fail
                go_roundw
                case rel => exact ⟨t + 1, p5, by omega, HES, rfl, by go_num, by go_num, trivial⟩
                case measure => simp [intOf]; omega
              · have hrt : r = t := by omega
                subst hrt
                have HE : Hid (p3 = P + (enc S Z V n (i + r)).length) := by rw [← encIn_full hr1]; exact HP3
                have HQ2 : Hid (0 < i + r → (S i).toList = (S (i + r - 1)).toList) := fun _ => by rw [show i + r - 1 = i + (r - 1) by omega, HRUN.out.same (r - 1) (by omega)]
                have hat2 : AtRun S n (i + r) := AtRun.next HRUN.out
                clear htr ht HP3
                go_wp2_with fail
                go_roundw
                case rel => exact ⟨i + r, p3, _, hat2, HE, rfl, rfl, by rw [HCR.out]; go_num, rfl, HQ2, trivial⟩
                case measure => simp [intOf]; omega
        · have hni : n = i := by omega
          subst hni
          have HE : Hid (p = lo) := by unfold Hid; rw [HP.out, HLO1.out]
          clear hlt hin hat
          go_wp2_with fail
          go_ret
          have hE := HE.out
          exact ⟨by simp; omega, bel'⟩

end Go.Proofs.Qxb6003726a
