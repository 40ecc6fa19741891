import Derived.Test.Qxb6003726aMovesRows
import Derived.Deep.Cut
namespace Go.Proofs.Qxb6003726a
open Go.RowKit

/-- The number of the region that a code begins with. -/
def headId : Code → Option Nat
  | .region id _ _ => some id
  | .seq a _ => headId a
  | .block _ c => headId c
  | .loop c => headId c
  | _ => none
/-- What is left of a code from the statement on that begins with region k. -/
def tailAt (k : Nat) : Code → Option Code
  | .seq a b => if headId a = some k then some (.seq a b) else tailAt k b
  | _ => none

/-- The end of the law: it returned true and nothing old has turned. -/
def Yes (w : World) (e : Ending) (w' : World) : Prop := e = .returned (.bool true) ∧ Below w.heap.size w w'

set_option maxHeartbeats 8000000 in
set_option maxRecDepth 100000 in
theorem tail4 (w0 W9 : World) (a0 a1 a2 a3 ac : Option Addr) (l0 l2 l c0 c1 c2 c3 cc : Nat) (S S' C : Nat → ByteArray) (T T' F G : Nat → Int) (x4 x5 x6 x7 x8 x9 x10 x11 x12 x14 x15 x16 x17 x18 x19 x20 x21 x22 x23 x24 x25 x26 x27 x28 x29 x30 x31 x32 x33 x34 x35 x36 x37 x38 x39 x40 x41 x42 x43 x44 x45 x46 x47 x48 x49 x50 x51 x52 x53 x54 x55 x56 x57 x58 x59 x60 x61 x62 x63 x64 x65 x66 x67 x68 x69 x70 x71 x72 x73 x74 x75 x76 x77 x78 x79 x80 x81 x82 x83 x84 x85 x86 x87 x88 x89 x90 x91 x92 x93 x94 x95 x96 x97 x98 x99 x100 x101 x102 x103 x104 x105 x106 x107 x108 x109 x110 x111 x112 x113 x114 x115 x116 x117 x118 x119 x120 x121 x122 x123 x124 x125 x126 x127 x128 x129 x130 x131 x132 x133 x134 x135 x136 x137 x138 x139 x140 x141 x142 x143 x144 x145 x146 x147 x148 x149 x150 x151 x152 x153 x154 x155 x156 x157 x158 x159 x160 x161 x162 x163 x164 x165 x166 x167 x168 x169 x170 x171 x172 x173 x174 x175 x176 x177 x178 x179 x180 x181 x182 x183 x184 x185 x186 x187 x188 x189 x190 x191 x192 x193 x194 x195 x196 x197 x198 x199 x200 x201 x202 x203 x204 x205 x206 x207 x208 x209 x210 x211 x212 x213 x214 x215 x216 x217 x218 x219 x220 x221 x222 x223 x224 x225 x226 x227 x228 x229 x230 : Value)
    (r0 : Row W9 a0 l0 fun i => .string (S i)) (r1 : Row W9 a1 l0 fun i => .int .u8 (T i)) (r2 : Row W9 a2 l2 fun i => .string (S' i)) (r3 : Row W9 a3 l2 fun i => .int .u8 (T' i)) (r4 : Row3 W9 ac l C F G)
    (m0 : l0 ≤ 1048576) (m2 : l2 ≤ 1048576) (hl : l ≤ l0 + l2) (bel : Below w0.heap.size w0 W9) (HL : Hid (Lists S S' T T' l0 l2)) (TOLD : Hid (Told S S' T T' l0 l2 l C F G)) :
    Code.wp Try.prog ((Try.f4.body.bind (tailAt 24)).getD .skip) (bodyPost Try.prog Try.f4 (Yes w0)) ⟨#[.slice a0 l0 c0, .slice a1 l0 c1, .slice a2 l2 c2, .slice a3 l2 c3, x4, x5, x6, x7, x8, x9, x10, x11, x12, .slice ac l cc, x14, x15, x16, x17, x18, x19, x20, x21, x22, x23, x24, x25, x26, x27, x28, x29, x30, x31, x32, x33, x34, x35, x36, x37, x38, x39, x40, x41, x42, x43, x44, x45, x46, x47, x48, x49, x50, x51, x52, x53, x54, x55, x56, x57, x58, x59, x60, x61, x62, x63, x64, x65, x66, x67, x68, x69, x70, x71, x72, x73, x74, x75, x76, x77, x78, x79, x80, x81, x82, x83, x84, x85, x86, x87, x88, x89, x90, x91, x92, x93, x94, x95, x96, x97, x98, x99, x100, x101, x102, x103, x104, x105, x106, x107, x108, x109, x110, x111, x112, x113, x114, x115, x116, x117, x118, x119, x120, x121, x122, x123, x124, x125, x126, x127, x128, x129, x130, x131, x132, x133, x134, x135, x136, x137, x138, x139, x140, x141, x142, x143, x144, x145, x146, x147, x148, x149, x150, x151, x152, x153, x154, x155, x156, x157, x158, x159, x160, x161, x162, x163, x164, x165, x166, x167, x168, x169, x170, x171, x172, x173, x174, x175, x176, x177, x178, x179, x180, x181, x182, x183, x184, x185, x186, x187, x188, x189, x190, x191, x192, x193, x194, x195, x196, x197, x198, x199, x200, x201, x202, x203, x204, x205, x206, x207, x208, x209, x210, x211, x212, x213, x214, x215, x216, x217, x218, x219, x220, x221, x222, x223, x224, x225, x226, x227, x228, x229, x230], []⟩ W9 := by
  conv => arg 2; whnf
  have I1 : Hid (∀ i j, i < l0 → j < l0 → (S i).toList = (S j).toList → i = j) := HL.out.inj
  have I2 : Hid (∀ i j, i < l2 → j < l2 → (S' i).toList = (S' j).toList → i = j) := HL.out.inj'
  clear HL
  go_wp2
  go_loopw [14] (fun i wr => ∃ k : Nat, k ≤ l ∧ i = .int .i64 k ∧ ∃ n, wr = W9.drewN n) (fun i _ => l - (intOf i).toNat)
  case atStart => exact ⟨0, Nat.zero_le _, rfl, 0, rfl⟩
  case round =>
    obtain ⟨k, hk, rfl, n, rfl⟩ := hrel
    by_cases hlt : k < l
    · obtain ⟨g, rfl, hg, hc⟩ := r4.at hlt
      obtain ⟨d0, d1, d2⟩ := hc k hlt
      have b1 : (0 : Int) ≤ (k : Int) := by omega
      have b2 : (k : Int) < (l : Int) := by omega
      have ne := TOLD.out.ne k hlt
      have ne' : (F k == G k) = false := by simp [ne]
      have tf : (F k != look S T (C k) l0) = false := by rw [TOLD.out.frm k hlt]; simp
      have tg : (G k != look S' T' (C k) l2) = false := by rw [TOLD.out.to k hlt]; simp
      clear ne
      by_cases hk0 : k = 0
      · subst hk0
        have hg0 : decide ((0 : Int) < ((0 : Nat) : Int)) = false := by simp
        clear hc r4 TOLD
        go_wp2_with fail
        go_quiet (fail)
        go_wp2_with fail
        go_quiet (fail)
        go_wp2_with fail
        go_quiet ((go_at_call 20; exact (f20_look a0 a1 l0 c0 c1 S T _ _ (by exact r0) (by exact r1) m0 I1).mono (fun _ _ h => ⟨h.1, _, h.2⟩)))
        go_wp2_with fail
        go_quiet ((go_at_call 20; exact (f20_look a2 a3 l2 c2 c3 S' T' _ _ (by exact r2) (by exact r3) m2 I2).mono (fun _ _ h => ⟨h.1, _, h.2⟩)))
        go_wp2_with fail
        go_roundw
        case rel => exact ⟨1, by omega, by go_num, _, rfl⟩
        case measure => simp [intOf]; omega
      · obtain ⟨q, rfl⟩ : ∃ q, k = q + 1 := ⟨k - 1, by omega⟩
        have hgt : decide ((0 : Int) < ((q + 1 : Nat) : Int)) = true := by simp
        have ha := TOLD.out.asc q hlt
        obtain ⟨d3, -, -⟩ := hc q (by omega)
        have b3 : (0 : Int) ≤ (q : Int) := by omega
        have b4 : (q : Int) < (l : Int) := by omega
        clear hc r4 TOLD hk0
        go_wp2_with fail
        go_quiet (fail)
        go_wp2_with fail
        go_quiet (fail)
        go_wp2_with fail
        go_quiet ((go_at_call 20; exact (f20_look a0 a1 l0 c0 c1 S T _ _ (by exact r0) (by exact r1) m0 I1).mono (fun _ _ h => ⟨h.1, _, h.2⟩)))
        go_wp2_with fail
        go_quiet ((go_at_call 20; exact (f20_look a2 a3 l2 c2 c3 S' T' _ _ (by exact r2) (by exact r3) m2 I2).mono (fun _ _ h => ⟨h.1, _, h.2⟩)))
        go_wp2_with fail
        go_roundw
        case rel => exact ⟨q + 1 + 1, by omega, by go_num, _, rfl⟩
        case measure => simp [intOf]; omega
    · have HLEN : Hid (l = cnt (difA S S' T T' l2) l0 + cnt (difB S S' T l0) l2) := TOLD.out.len
      clear TOLD r4 hk
      go_wp2_with fail
      go_loopw [15, 16] (fun d i wr => ∃ k : Nat, k ≤ l0 ∧ i = .int .i64 k ∧ d = .int .i64 (cnt (difA S S' T T' l2) k : Nat) ∧ ∃ n, wr = W9.drewN n) (fun _ i _ => l0 - (intOf i).toNat)
      case atStart => exact ⟨0, Nat.zero_le _, rfl, rfl, _, rfl⟩
      case round =>
        obtain ⟨k, hk, rfl, rfl, n, rfl⟩ := hrel
        have hcl := cnt_le (difA S S' T T' l2) k
        by_cases hlt : k < l0
        · obtain ⟨b, off, rfl, hbl, hc⟩ := r0.at hlt
          obtain ⟨b', off', rfl, hbl', hc'⟩ := r1.at hlt
          have hr0 := hc k hlt
          have hr1 := hc' k hlt
          have b1 : (0 : Int) ≤ (k : Int) := by omega
          have b2 : (k : Int) < (l0 : Int) := by omega
          clear hc hc'
          cases hd : difA S S' T T' l2 k with
          | true =>
            have hd' : (look S' T' (S k) l2 != T k) = true := by simpa [difA] using hd
            have HD : Hid (cnt (difA S S' T T' l2) (k + 1) = cnt (difA S S' T T' l2) k + 1) := by simp [Hid, cnt, hd]
            clear hd
            go_wp2_with fail
            go_quiet ((go_at_call 20; exact (f20_look a2 a3 l2 c2 c3 S' T' _ _ (by exact r2) (by exact r3) m2 I2).mono (fun _ _ h => ⟨h.1, _, h.2⟩)))
            go_wp2_with fail
            go_roundw
            case rel => exact ⟨k + 1, by omega, by go_num, by rw [HD.out]; go_num, _, rfl⟩
            case measure => simp [intOf]; omega
          | false =>
            have hd' : (look S' T' (S k) l2 != T k) = false := by simpa [difA] using hd
            have HD : Hid (cnt (difA S S' T T' l2) (k + 1) = cnt (difA S S' T T' l2) k) := by simp [Hid, cnt, hd]
            clear hd
            go_wp2_with fail
            go_quiet ((go_at_call 20; exact (f20_look a2 a3 l2 c2 c3 S' T' _ _ (by exact r2) (by exact r3) m2 I2).mono (fun _ _ h => ⟨h.1, _, h.2⟩)))
            go_wp2_with fail
            go_roundw
            case rel => exact ⟨k + 1, by omega, by go_num, by rw [HD.out], _, rfl⟩
            case measure => simp [intOf]; omega
        · have hkl : l0 = k := by omega
          subst hkl
          clear hlt hk
          go_wp2_with fail
          go_loopw [15, 17] (fun d i wr => ∃ k : Nat, k ≤ l2 ∧ i = .int .i64 k ∧ d = .int .i64 (cnt (difA S S' T T' l2) l0 + cnt (difB S S' T l0) k : Nat) ∧ ∃ n, wr = W9.drewN n) (fun _ i _ => l2 - (intOf i).toNat)
          case atStart => exact ⟨0, Nat.zero_le _, rfl, rfl, _, rfl⟩
          case round =>
            obtain ⟨k, hk, rfl, rfl, n, rfl⟩ := hrel
            have hcl2 := cnt_le (difB S S' T l0) k
            by_cases hlt : k < l2
            · obtain ⟨b, off, rfl, hbl, hc⟩ := r2.at hlt
              have hr0 := hc k hlt
              have b1 : (0 : Int) ≤ (k : Int) := by omega
              have b2 : (k : Int) < (l2 : Int) := by omega
              clear hc
              cases hd : difB S S' T l0 k with
              | true =>
                have hd' : (look S T (S' k) l0 == 0) = true := by simpa [difB] using hd
                have HD : Hid (cnt (difB S S' T l0) (k + 1) = cnt (difB S S' T l0) k + 1) := by simp [Hid, cnt, hd]
                clear hd
                go_wp2_with (go_at_call 20; refine (f20_look a0 a1 l0 c0 c1 S T _ _ (by exact r0) (by exact r1) m0 I1).mono ?_; rintro e w' ⟨rfl, rfl⟩)
                go_roundw
                case rel => exact ⟨k + 1, by omega, by go_num, by rw [HD.out]; go_num, _, rfl⟩
                case measure => simp [intOf]; omega
              | false =>
                have hd' : (look S T (S' k) l0 == 0) = false := by simpa [difB] using hd
                have HD : Hid (cnt (difB S S' T l0) (k + 1) = cnt (difB S S' T l0) k) := by simp [Hid, cnt, hd]
                clear hd
                go_wp2_with (go_at_call 20; refine (f20_look a0 a1 l0 c0 c1 S T _ _ (by exact r0) (by exact r1) m0 I1).mono ?_; rintro e w' ⟨rfl, rfl⟩)
                go_roundw
                case rel => exact ⟨k + 1, by omega, by go_num, by rw [HD.out]; go_num, _, rfl⟩
                case measure => simp [intOf]; omega
            · have hkl : l2 = k := by omega
              subst hkl
              clear hlt hk
              go_wp2_with fail
              go_ret
              exact ⟨by have h := HLEN.out; simp; omega, below_drewN bel _⟩

end Go.Proofs.Qxb6003726a
