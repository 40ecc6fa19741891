import Derived.Test.Qxb6003726aClones
import Derived.Lib.Walk
import Derived.Lib.VarintMem
import Derived.Lib.VarintBits
import Derived.Deep.AppendLies
import Derived.Lib.AppendStr
namespace Go.Proofs.Qxb6003726a
open Go.RowKit

/-- One append more: of what was there only the row appended to has turned. -/
theorem grown_chain {w wr w1 : World} {r0 r : Option Nat} {o : Obj} (h : w.grownBy wr r0) (hloc : ∀ k, r = some k → some k = r0 ∨ w.heap.size ≤ k) (hg : (wr.alloc o).grownBy w1 r) : w.grownBy w1 r0 := by
  have hs := h.size
  have hs1 := hg.size
  simp only [World.alloc, Array.size_push] at hs1
  refine ⟨hg.os.trans h.os, hg.tape.trans h.tape, hg.output.trans h.output, by omega, fun k hk hne => ?_⟩
  rw [hg.block k (by simp; omega) (fun e => ?_), Below.heap_alloc _ _ _ (by omega), h.block k hk hne]
  rcases hloc k e.symm with c | c
  · exact hne c
  · omega
/-- The same without a block of the element's own. -/
theorem grown_chain' {w wr w1 : World} {r0 r : Option Nat} (h : w.grownBy wr r0) (hloc : ∀ k, r = some k → some k = r0 ∨ w.heap.size ≤ k) (hg : wr.grownBy w1 r) : w.grownBy w1 r0 := by
  have hs := h.size
  have hs1 := hg.size
  refine ⟨hg.os.trans h.os, hg.tape.trans h.tape, hg.output.trans h.output, by omega, fun k hk hne => ?_⟩
  rw [hg.block k (by omega) (fun e => ?_), h.block k hk hne]
  rcases hloc k e.symm with c | c
  · exact hne c
  · omega
theorem grown_refl (w : World) (r : Option Nat) : w.grownBy w r := ⟨rfl, rfl, rfl, Nat.le_refl _, fun _ _ _ => rfl⟩

/-- Where a slice that was appended to lies: where it lay, or in new memory. -/
def Loc (w : World) (sv v : Value) : Prop := ∀ k, v.ownBlock = some k → some k = sv.ownBlock ∨ w.heap.size ≤ k

set_option maxHeartbeats 2000000 in
set_option maxRecDepth 100000 in
/-- binary.AppendUvarint onto a slice that the call owns. -/
theorem f41_any (B n x : Nat) (hx : x < 18446744073709551616) (sv : Value) (xs : List Value) (w : World) (hown : w.ownsRow B 5 1 sv n xs) (hBw : B ≤ w.heap.size) (hlim : n + 10 ≤ 140737488355328) :
    Calls Try.prog 41 #[sv, .int .u64 x] w fun e w' => ∃ v', e = .returned v' ∧ w'.ownsRow B 5 1 v' (n + (Lib.uvarint x).length) (xs ++ Lib.byteCells (Lib.uvarint x)) ∧ w.grownBy w' sv.ownBlock ∧ Loc w sv v' := by
  obtain ⟨i0, hi, hz0, hz1, hz2⟩ := info_parts Try.info5
  have hlen := Lib.uvarint_length64 hx
  go_enter Try.func41, Try.ntmps41
  go_wp2
  go_loopw [0, 1] (fun vb vx wr => ∃ (y : Nat) (pre : List UInt8), vx = .int .u64 y ∧ y ≤ x ∧ Lib.uvarint x = pre ++ Lib.uvarint y ∧ wr.ownsRow B 5 1 vb (n + pre.length) (xs ++ Lib.byteCells pre) ∧ w.grownBy wr sv.ownBlock ∧ Loc w sv vb)
    (fun _ vx _ => (intOf vx).toNat)
  case atStart => exact ⟨x, [], rfl, Nat.le_refl _, rfl, by simpa [Lib.byteCells] using hown, grown_refl _ _, fun k hk => .inl hk.symm⟩
  case round =>
    obtain ⟨y, pre, rfl, hy, hsplit, hown1, hgr, hloc⟩ := hrel
    have hsz := hgr.size
    have hpl : pre.length + (Lib.uvarint y).length ≤ 10 := by
      have h2 := congrArg List.length hsplit
      rw [List.length_append] at h2
      omega
    have hyp := Lib.uvarint_pos y
    by_cases h128 : 128 ≤ y
    · have hor : bits .or .u8 ((y : Int) % 256) 128 = ((y % 128 + 128 : Nat) : Int) := by
        rw [Lib.u8_or128_any _ (by omega) (by omega)]
        omega
      go_wp2_with (at_builtin; refine wpList_append_lies _ rfl _ _ 30 rfl B 5 i0 (.int .u8 0) 1 1 Try.underlying30 hi hz0 hz1 hz2 rfl (by decide) _ _ _ rfl (hown1.alloc _) ⟨wr.heap.size, 0, none⟩ 1 1 [Value.int .u8 ((y % 128 + 128 : Nat) : Int)] rfl rfl ?c1 ?c2 (by omega) ?c3 ?c4 ?c5 (wr.heap.size + 1) ?c6 ?_)
      case c1 =>
        intro j u hj
        match j, hj with
        | 0, hj => simp at hj; subst hj; simp [Addr.add]
      case c2 => intro u hu; simp at hu; subst hu; rfl
      case c3 => unfold maxLen; omega
      case c4 => omega
      case c5 => simp; omega
      case c6 => simp
      intro gg cap w1 hown' hgrow hat hltg
      have hgr1 := grown_chain hgr hloc hgrow
      have hloc1 : Loc w sv (.slice (some ⟨gg, 0, none⟩) (n + pre.length + 1) cap) := by
        intro k hk
        obtain rfl : gg = k := by simpa [Value.ownBlock] using hk
        rcases hat with h | h
        · exact hloc gg h
        · right; omega
      go_wp2
      go_roundw
      case rel =>
        refine ⟨y / 128, pre ++ [(y % 128 + 128).toUInt8], by go_num, by omega, by rw [hsplit, Lib.uvarint_big h128]; simp, ?_, hgr1, hloc1⟩
        have ec : ((y % 128 + 128 : Nat) : Int) = (y : Int) % 128 + 128 := by omega
        rw [Lib.byteCells_snoc pre (by omega), List.length_append, List.length_singleton, ← Nat.add_assoc, ec]
        exact hown'
      case measure => simp [intOf]; omega
    · have hsm : Lib.uvarint y = [y.toUInt8] := Lib.uvarint_small (by omega)
      go_wp2_with (at_builtin; refine wpList_append_lies _ rfl _ _ 30 rfl B 5 i0 (.int .u8 0) 1 1 Try.underlying30 hi hz0 hz1 hz2 rfl (by decide) _ _ _ rfl (hown1.alloc _) ⟨wr.heap.size, 0, none⟩ 1 1 [Value.int .u8 (y : Int)] rfl rfl ?c1 ?c2 (by omega) ?c3 ?c4 ?c5 (wr.heap.size + 1) ?c6 ?_)
      case c1 =>
        intro j u hj
        match j, hj with
        | 0, hj => simp at hj; subst hj; simp [Addr.add]
      case c2 => intro u hu; simp at hu; subst hu; rfl
      case c3 => unfold maxLen; omega
      case c4 => omega
      case c5 => simp; omega
      case c6 => simp
      intro gg cap w1 hown' hgrow hat hltg
      have hgr1 := grown_chain hgr hloc hgrow
      have hloc1 : Loc w sv (.slice (some ⟨gg, 0, none⟩) (n + pre.length + 1) cap) := by
        intro k hk
        obtain rfl : gg = k := by simpa [Value.ownBlock] using hk
        rcases hat with h | h
        · exact hloc gg h
        · right; omega
      go_wp2
      go_ret
      refine ⟨_, rfl, ?_, hgr1, hloc1⟩
      rw [hsplit, hsm, Lib.byteCells_snoc pre (by omega), List.length_append, List.length_singleton, ← Nat.add_assoc]
      exact hown'

/-- An id as the encoding writes it: its length, its bytes. -/
def idb (s : ByteArray) : List UInt8 := Lib.uvarint s.size ++ s.data.toList
theorem strCells_bytes (s : ByteArray) : Lib.strCells s = Lib.byteCells s.data.toList := rfl
theorem idb_length (s : ByteArray) : (idb s).length = (Lib.uvarint s.size).length + s.size := by
  rw [idb, List.length_append, Array.length_toList]; rfl

set_option maxHeartbeats 400000 in
/-- wire.AppendID onto a slice that the call owns. -/
theorem f42_any (B n : Nat) (s : ByteArray) (hs : s.size ≤ 1048576) (sv : Value) (xs : List Value) (w : World) (hown : w.ownsRow B 5 1 sv n xs) (hBw : B ≤ w.heap.size) (hlim : n + 2097152 ≤ 140737488355328) :
    Calls Try.prog 42 #[sv, .string s] w fun e w' => ∃ v', e = .returned v' ∧ w'.ownsRow B 5 1 v' (n + (idb s).length) (xs ++ Lib.byteCells (idb s)) ∧ w.grownBy w' sv.ownBlock := by
  obtain ⟨i0, hi, hz0, hz1, hz2⟩ := info_parts Try.info5
  have hlen := Lib.uvarint_length64 (x := s.size) (by omega)
  go_enter Try.func42, Try.ntmps42
  go_wp2_with fail
  refine (f41_any B n s.size (by omega) sv xs w hown hBw (by omega)).mono ?_
  rintro e w1 ⟨v1, rfl, hown1, hb1, hloc⟩
  have hsz := hb1.size
  go_wp2_with (at_builtin; refine Lib.wpList_append_own_string _ rfl _ _ 30 9 rfl B 5 i0 Try.underlying30 Try.underlying9 hi hz0 hz1 hz2 v1 _ _ rfl hown1 s rfl (by unfold maxLen; omega) (by omega) (by omega) ?_; intro v' w2 hown2 hgrow _)
  go_ret
  refine ⟨v', rfl, ?_, grown_chain' hb1 hloc hgrow⟩
  rw [idb_length, idb, Lib.byteCells_append, ← List.append_assoc, ← Nat.add_assoc]
  exact hown2

end Go.Proofs.Qxb6003726a
