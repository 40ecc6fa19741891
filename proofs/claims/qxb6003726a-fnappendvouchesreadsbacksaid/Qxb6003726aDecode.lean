import Derived.Test.Qxb6003726aAppends
namespace Go.Proofs.Qxb6003726a
open Go.RowKit

/-- In the bytes D the bytes of l lie from place p on. -/
def Lies (D : Nat → Nat) (p : Nat) (l : List UInt8) : Prop := ∀ i, i < l.length → D (p + i) = (l.getD i 0).toNat

/-- The k-th byte of a varint. -/
theorem uv_at : ∀ k x, k < (Lib.uvarint x).length →
    (x / 128 ^ k < 128 ∧ ((Lib.uvarint x).getD k 0).toNat = x / 128 ^ k ∧ (Lib.uvarint x).length = k + 1) ∨ (128 ≤ x / 128 ^ k ∧ ((Lib.uvarint x).getD k 0).toNat = x / 128 ^ k % 128 + 128 ∧ k + 1 < (Lib.uvarint x).length)
  | 0, x, _ => by
    rw [Nat.pow_zero, Nat.div_one]
    by_cases hx : x < 128
    · left
      rw [Lib.uvarint_small hx]
      exact ⟨hx, by simp only [List.getD_cons_zero]; exact Lib.toUInt8_toNat (by omega), rfl⟩
    · right
      rw [Lib.uvarint_big (by omega)]
      refine ⟨by omega, by simp only [List.getD_cons_zero]; exact Lib.toUInt8_toNat (by omega), ?_⟩
      have := Lib.uvarint_pos (x / 128)
      rw [List.length_cons]
      omega
  | k + 1, x, h => by
    have hx : 128 ≤ x := by
      rcases Nat.lt_or_ge x 128 with c | c
      · rw [Lib.uvarint_small c] at h; simp at h
      · exact c
    rw [Lib.uvarint_big hx, List.length_cons] at h
    have ih := uv_at k (x / 128) (by omega)
    have e : x / 128 / 128 ^ k = x / 128 ^ (k + 1) := by rw [Nat.div_div_eq_div_mul, Nat.pow_succ, Nat.mul_comm]
    rw [e] at ih
    rw [Lib.uvarint_big hx, List.getD_cons_succ, List.length_cons]
    rcases ih with ⟨h1, h2, h3⟩ | ⟨h1, h2, h3⟩
    · exact .inl ⟨h1, h2, by omega⟩
    · exact .inr ⟨h1, h2, by omega⟩

theorem pow7 (k : Nat) : (2 : Nat) ^ (7 * k) = 128 ^ k := by rw [Nat.pow_mul]

/-- 'v | uint64(c & 0x7f) << shift' where the bits lie apart. -/
theorem or_step (acc k d : Nat) (hacc : acc < 128 ^ k) (hd : d < 256) (hfit : acc + d % 128 * 128 ^ k < 18446744073709551616) :
    bits .or .u64 (acc : Int) (IntKind.u64.wrap (IntKind.u64.wrap (bits .and .u8 (d : Int) 127) * 2 ^ (7 * k))) = ((acc + d % 128 * 128 ^ k : Nat) : Int) := by
  rw [u8_and127 _ (by omega) (by omega)]
  have e1 : ((d : Int) % 128) = ((d % 128 : Nat) : Int) := by omega
  have e2 : (2 : Int) ^ (7 * k) = ((128 ^ k : Nat) : Int) := by rw [← pow7 k]; exact (Int.natCast_pow 2 (7 * k)).symm
  rw [e1, e2, u64_wrap_id ((d % 128 : Nat) : Int) (by omega) (by omega), ← Int.natCast_mul, u64_wrap_id _ (by omega) (by omega)]
  rw [(bits_nat .u64 64 (by decide) wraps_u64 acc (d % 128 * 128 ^ k) (by omega) (by omega)).2]
  congr 1
  have h := Nat.shiftLeft_add_eq_or_of_lt (i := 7 * k) (b := acc) (by rw [pow7]; exact hacc) (d % 128)
  rw [Nat.shiftLeft_eq, pow7] at h
  rw [Nat.or_comm, ← h]
  omega

set_option maxHeartbeats 1000000 in
set_option maxRecDepth 100000 in
theorem f24_any (a : Option Addr) (len cap p x : Nat) (D : Nat → Nat) (w : World) (h : Row w a len fun i => .int .u8 (D i)) (hm : len ≤ 140737488355328) (hx : x < 18446744073709551616)
    (hp : p + (Lib.uvarint x).length ≤ len) (hl : Lies D p (Lib.uvarint x)) :
    Calls Try.prog 24 #[.slice a len cap, .int .i64 p] w fun e w' => e = .returned (.tuple #[.int .u64 x, .int .i64 (p + (Lib.uvarint x).length : Nat), .bool true]) ∧ w' = w := by
  have HX : Hid (x < 18446744073709551616) := hx
  clear hx
  go_enter Try.func24, Try.ntmps24
  go_wp2
  go_loop [1, 7, 8, 9] (fun vp vv vs vi => ∃ k : Nat, k < (Lib.uvarint x).length ∧ vp = .int .i64 (p + k : Nat) ∧ vv = .int .u64 (x % 128 ^ k : Nat) ∧ vs = .int .u64 (7 * k : Nat) ∧ vi = .int .i64 k) (fun _ _ _ i => 10 - (intOf i).toNat)
  case atStart => exact ⟨0, Lib.uvarint_pos x, rfl, by rw [Nat.pow_zero, Nat.mod_one]; rfl, rfl, rfl⟩
  case round =>
    obtain ⟨k, hk, rfl, rfl, rfl, rfl⟩ := hrel
    have hlen := Lib.uvarint_length64 HX.out
    have hk10 : k < 10 := by omega
    have hpk : p + k < len := by omega
    obtain ⟨b, off, rfl, hbl, hc⟩ := h.at hpk
    have hck := hc (p + k) hpk
    have hD := hl k hk
    clear hc h hl
    have hacc : x % 128 ^ k < 128 ^ k := Nat.mod_lt _ (Nat.pow_pos (by omega))
    have hdm := Nat.mod_add_div x (128 ^ k)
    rcases uv_at k x hk with ⟨hy, hb, hlast⟩ | ⟨hy, hb, hmore⟩
    · have hd : D (p + k) < 128 := by omega
      have hor := or_step (x % 128 ^ k) k (D (p + k)) hacc (by omega) (by
        have := HX.out
        rw [hD, hb, Nat.mod_eq_of_lt hy, Nat.mul_comm]; omega)
      have hfin : ((x % 128 ^ k + D (p + k) % 128 * 128 ^ k : Nat) : Int) = x := by
        rw [hD, hb, Nat.mod_eq_of_lt hy, Nat.mul_comm (x / 128 ^ k), hdm]
      have hov : (bits .or .u64 ((x % 128 ^ k : Nat) : Int) (IntKind.u64.wrap (IntKind.u64.wrap (bits .and .u8 (D (p + k) : Int) 127) * 2 ^ (7 * k))) = x) := hor.trans hfin
      have HL : Hid ((Lib.uvarint x).length = k + 1) := hlast
      clear hor hfin hdm hacc hb hD hlast
      generalize x % 128 ^ k = acc at *
      go_wp2
      go_ret3
      exact ⟨congrArg (fun n : Int => Ending.returned (.tuple #[.int .u64 x, .int .i64 n, .bool true])) (by have := HL.out; omega), rfl⟩
    · have hd : ¬ D (p + k) < 128 := by omega
      have hd2 : D (p + k) < 256 := by omega
      have hdd : D (p + k) % 128 = x / 128 ^ k % 128 := by omega
      have hms : x % 128 ^ (k + 1) = x % 128 ^ k + x / 128 ^ k % 128 * 128 ^ k := by rw [Nat.mod_pow_succ, Nat.mul_comm]
      have hle : x % 128 ^ (k + 1) ≤ x := Nat.mod_le _ _
      have hov := or_step (x % 128 ^ k) k (D (p + k)) hacc (by omega) (by
        have := HX.out
        rw [hdd, ← hms]; omega)
      rw [hdd, ← hms] at hov
      have HL : Hid (k + 1 < (Lib.uvarint x).length) := hmore
      clear hdm hacc hb hD hmore hdd hms hle
      generalize x % 128 ^ k = acc at *
      generalize hac : x % 128 ^ (k + 1) = acc' at *
      have HAC : Hid (x % 128 ^ (k + 1) = acc') := hac
      clear hac
      go_wp2
      go_round
      case rel => exact ⟨k + 1, HL.out, by go_num, by rw [HAC.out], by go_num, by go_num⟩
      case measure => simp [intOf]; omega


theorem Lies.left {D : Nat → Nat} {p : Nat} {l l' : List UInt8} (h : Lies D p (l ++ l')) : Lies D p l := fun i hi => by
  rw [h i (by rw [List.length_append]; omega), List.getD_eq_getElem?_getD, List.getElem?_append_left hi, ← List.getD_eq_getElem?_getD]
theorem Lies.right {D : Nat → Nat} {p : Nat} {l l' : List UInt8} (h : Lies D p (l ++ l')) : Lies D (p + l.length) l' := fun i hi => by
  have := h (l.length + i) (by rw [List.length_append]; omega)
  rw [Nat.add_assoc, this, List.getD_eq_getElem?_getD, List.getElem?_append_right (by omega), Nat.add_sub_cancel_left, ← List.getD_eq_getElem?_getD]

/-- 'string(b[lo:lo+len(s)])' where the bytes of s lie there. -/
theorem str_conv (w : World) (b off len lo : Nat) (s : ByteArray) (D : Nat → Nat) (hc : ∀ i, i < len → w.cell? ⟨b, off + i, none⟩ = some (.int .u8 (D i))) (hlo : lo + s.size ≤ len) (hr : Lies D lo s.data.toList) (c : Nat) :
    (convert 30 9 (.slice (some ⟨b, off + lo, none⟩) s.size c)).run Try.prog w = .ok (.string s) w := by
  have hsz : s.data.toList.length = s.size := by rw [Array.length_toList]; rfl
  have h := run_convert_bytes_arg (P := Try.prog) w 30 5 Try.underlying30 Try.underlying5 b (off + lo) s.size c (s.data.toList.map fun x => (x.toNat : Int)) (by rw [List.length_map, hsz]) (fun i hi => by
    rw [Nat.add_assoc, hc (lo + i) (by omega), hr i (by omega)]
    have hi' : i < s.data.toList.length := by omega
    rw [List.getD_eq_getElem?_getD, List.getD_eq_getElem?_getD, List.getElem?_map, List.getElem?_eq_getElem hi']
    rfl) 9 Try.underlying9
  rw [h]
  have e : strOfNums (s.data.toList.map fun x => (x.toNat : Int)) = s := by
    apply ByteArray.ext
    apply Array.ext'
    rw [strOfNums_data, List.map_map]
    refine (List.map_congr_left (g := id) fun x _ => ?_).trans (List.map_id _)
    simp
  rw [e]

set_option maxHeartbeats 1000000 in
set_option maxRecDepth 100000 in
theorem f25_any (a : Option Addr) (len cap p : Nat) (s : ByteArray) (D : Nat → Nat) (w : World) (h : Row w a len fun i => .int .u8 (D i)) (hm : len ≤ 140737488355328) (hcap : len ≤ cap) (hs : s.size ≤ 1048576)
    (hp : p + (idb s).length ≤ len) (hl : Lies D p (idb s)) :
    Calls Try.prog 25 #[.slice a len cap, .int .i64 p] w fun e w' => e = .returned (.tuple #[.string s, .int .i64 (p + (idb s).length : Nat), .bool true]) ∧ w' = w := by
  have hlen := idb_length s
  have hn := Lib.uvarint_length64 (x := s.size) (by omega)
  go_enter Try.func25, Try.ntmps25
  go_wp2_with fail
  refine (f24_any a len cap p s.size D w h hm (by omega) (by omega) hl.left).mono ?_
  rintro e w' ⟨rfl, rfl⟩
  have hu := Lib.uvarint_pos s.size
  obtain ⟨b, off, rfl, hbl, hc⟩ := h.at (i := p) (by omega)
  have hr := hl.right
  rw [hlen] at hp
  have HE : Hid (p + (idb s).length = p + (Lib.uvarint s.size).length + s.size) := by rw [hlen, Nat.add_assoc]; rfl
  clear hl h hlen
  generalize (Lib.uvarint s.size).length = u at *
  have hcv := str_conv w' b off len (p + u) s D hc (by omega) hr
  have hcz := fun (c o : Nat) => run_convert_bytes_arg (P := Try.prog) w' 30 5 Try.underlying30 Try.underlying5 b o 0 c [] rfl (fun i hi => by omega) 9 Try.underlying9
  clear hc hr
  by_cases hz : p + u < cap
  · have hz1 : ¬ ((p : Int) + (u : Int) = (cap : Int)) := by omega
    go_wp2
    go_ret3
    exact ⟨congrArg (fun n : Int => Ending.returned (.tuple #[.string s, .int .i64 n, .bool true])) (by have := HE.out; omega), rfl⟩
  · obtain rfl : cap = p + u := by omega
    have hs0 : s.size = 0 := by omega
    have HS : Hid (s = ByteArray.empty) := by
      apply ByteArray.ext
      exact Array.eq_empty_of_size_eq_zero hs0
    clear hcv
    go_wp2
    go_ret3
    have e1 : strOfNums [] = s := HS.out.symm
    have e2 : (p : Int) + (u : Int) = ((p + (idb s).length : Nat) : Int) := by have := HE.out; omega
    exact ⟨by rw [← e2]; exact congrArg (fun x => Ending.returned (.tuple #[.string x, .int .i64 ((p : Int) + (u : Int)), .bool true])) e1, rfl⟩

end Go.Proofs.Qxb6003726a
