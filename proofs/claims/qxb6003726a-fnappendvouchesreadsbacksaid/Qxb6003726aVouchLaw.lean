import Derived.Test.Qxb6003726aMovesLaw
import Derived.Test.Qxb6003726aDecode
namespace Go.Proofs.Qxb6003726a

/-! The plain law of 'appendVouches': runs of one subject; what is written; where it lies. -/

/-- A run begins at i. -/
def start (S : Nat → ByteArray) (i : Nat) : Bool := decide (i = 0 ∨ (S i).toList ≠ (S (i - 1)).toList)

/-- Counting on from r while the subject is that of i. -/
def runF (S : Nat → ByteArray) (n i : Nat) : Nat → Nat → Nat
  | 0, r => r
  | f + 1, r => if i + r < n ∧ (S (i + r)).toList = (S i).toList then runF S n i f (r + 1) else r
/-- The length of the run that begins at i. -/
def rl (S : Nat → ByteArray) (n i : Nat) : Nat := runF S n i n 1

theorem runF_le (S : Nat → ByteArray) (n i : Nat) : ∀ f r, runF S n i f r ≤ r + f
  | 0, r => Nat.le_refl _
  | f + 1, r => by
    unfold runF
    split
    · have := runF_le S n i f (r + 1); omega
    · omega
theorem rl_le (S : Nat → ByteArray) (n i : Nat) : rl S n i ≤ 1 + n := runF_le S n i n 1

/-- r is the length of the run that begins at i. -/
structure Run (S : Nat → ByteArray) (n i r : Nat) : Prop where
  pos : 1 ≤ r
  fits : i + r ≤ n
  same : ∀ t, t < r → (S (i + t)).toList = (S i).toList
  stop : i + r = n ∨ (S (i + r)).toList ≠ (S i).toList

theorem runF_to {S : Nat → ByteArray} {n i r : Nat} (h : Run S n i r) : ∀ f r0, r0 ≤ r → r - r0 ≤ f → runF S n i f r0 = r
  | 0, r0, h1, h2 => by unfold runF; omega
  | f + 1, r0, h1, h2 => by
    unfold runF
    by_cases hc : r0 < r
    · rw [if_pos ⟨by have := h.fits; omega, h.same r0 hc⟩]
      exact runF_to h f (r0 + 1) (by omega) (by omega)
    · obtain rfl : r0 = r := by omega
      rw [if_neg]
      rintro ⟨c1, c2⟩
      rcases h.stop with s | s
      · omega
      · exact s c2
theorem rl_of {S : Nat → ByteArray} {n i r : Nat} (h : Run S n i r) : rl S n i = r := runF_to h n 1 h.pos (by have := h.fits; omega)

theorem Run.inner {S : Nat → ByteArray} {n i r : Nat} (h : Run S n i r) {t : Nat} (h0 : 0 < t) (ht : t < r) : start S (i + t) = false := by
  unfold start
  refine decide_eq_false ?_
  rintro (c | c)
  · omega
  · refine c ?_
    rw [h.same t ht, show i + t - 1 = i + (t - 1) by omega, h.same (t - 1) (by omega)]
theorem Run.next {S : Nat → ByteArray} {n i r : Nat} (h : Run S n i r) (hn : i + r < n) : start S (i + r) = true := by
  unfold start
  refine decide_eq_true (.inr ?_)
  have hp := h.pos
  rw [show i + r - 1 = i + (r - 1) by omega, h.same (r - 1) (by omega)]
  rcases h.stop with s | s
  · omega
  · exact s

/-- Every i below n begins a run of some length (counted from i on). -/
theorem run_exists (S : Nat → ByteArray) (n i : Nat) : ∀ d r, i + r + d = n → 1 ≤ r → (∀ t, t < r → (S (i + t)).toList = (S i).toList) → ∃ r', Run S n i r'
  | 0, r, h1, h2, h3 => ⟨r, h2, by omega, h3, .inl (by omega)⟩
  | d + 1, r, h1, h2, h3 => by
    by_cases hc : (S (i + r)).toList = (S i).toList
    · refine run_exists S n i d (r + 1) (by omega) (by omega) fun t ht => ?_
      rcases Nat.lt_or_ge t r with c | c
      · exact h3 t c
      · obtain rfl : t = r := by omega
        exact hc
    · exact ⟨r, h2, by omega, h3, .inr hc⟩
theorem run_at (S : Nat → ByteArray) {n i : Nat} (hi : i < n) : Run S n i (rl S n i) := by
  obtain ⟨r, hr⟩ := run_exists S n i (n - i - 1) 1 (by omega) (by omega) (fun t ht => by obtain rfl : t = 0 := (by omega); rfl)
  rw [rl_of hr]; exact hr

section
variable (S Z : Nat → ByteArray) (V : Nat → Nat) (n : Nat)

/-- A run's head: the subject, the run's length. -/
def hdr (k : Nat) : List UInt8 := if start S k then idb (S k) ++ Lib.uvarint (rl S n k) else []
/-- One vouch: the silencer, the version. -/
def bdy (k : Nat) : List UInt8 := idb (Z k) ++ Lib.uvarint (V k)
/-- The first k vouches, written. -/
def enc : Nat → List UInt8
  | 0 => []
  | k + 1 => enc k ++ (hdr S n k ++ bdy Z V k)
/-- Within the run that begins at i, t vouches written. -/
def encIn (i t : Nat) : List UInt8 := if t = 0 then enc S Z V n i ++ hdr S n i else enc S Z V n (i + t)
end

variable {S Z : Nat → ByteArray} {V : Nat → Nat} {n : Nat}

theorem encIn_zero {i : Nat} (hs : start S i = true) : encIn S Z V n i 0 = enc S Z V n i ++ (idb (S i) ++ Lib.uvarint (rl S n i)) := by simp [encIn, hdr, hs]
theorem encIn_succ {i t r : Nat} (h : Run S n i r) (ht : t < r) : encIn S Z V n i (t + 1) = encIn S Z V n i t ++ bdy Z V (i + t) := by
  unfold encIn
  rw [if_neg (by omega)]
  by_cases h0 : t = 0
  · subst h0
    rw [if_pos rfl, List.append_assoc]
    rfl
  · rw [if_neg h0, ← Nat.add_assoc]
    show enc S Z V n (i + t) ++ (hdr S n (i + t) ++ bdy Z V (i + t)) = _
    rw [hdr, h.inner (by omega) ht]
    rfl
theorem encIn_full {i r : Nat} (hp : 1 ≤ r) : encIn S Z V n i r = enc S Z V n (i + r) := by
  unfold encIn
  rw [if_neg (by omega)]

theorem idb_le {s : ByteArray} (h : s.size ≤ 1048576) : (idb s).length ≤ 1048586 := by
  rw [idb_length]
  have := Lib.uvarint_length64 (x := s.size) (by omega)
  omega
theorem hdr_le (k : Nat) (h : (S k).size ≤ 1048576) (hn : n ≤ 1048576) : (hdr S n k).length ≤ 1048600 := by
  unfold hdr
  split
  · rw [List.length_append]
    have h1 := idb_le h
    have h2 := Lib.uvarint_length64 (x := rl S n k) (by have := rl_le S n k; omega)
    omega
  · simp
theorem bdy_le (k : Nat) (h : (Z k).size ≤ 1048576) (hv : V k < 18446744073709551616) : (bdy Z V k).length ≤ 1048600 := by
  unfold bdy
  rw [List.length_append]
  have h1 := idb_le h
  have h2 := Lib.uvarint_length64 hv
  omega
theorem enc_le (hn : n ≤ 1048576) (hS : ∀ i, i < n → (S i).size ≤ 1048576) (hZ : ∀ i, i < n → (Z i).size ≤ 1048576) (hV : ∀ i, i < n → V i < 18446744073709551616) : ∀ k, k ≤ n → (enc S Z V n k).length ≤ k * 2097200
  | 0, _ => by simp [enc]
  | k + 1, hk => by
    have ih := enc_le hn hS hZ hV k (by omega)
    have h1 := hdr_le (S := S) (n := n) k (hS k (by omega)) hn
    have h2 := bdy_le (Z := Z) (V := V) k (hZ k (by omega)) (hV k (by omega))
    simp only [enc, List.length_append]
    omega
theorem encIn_le (hn : n ≤ 1048576) (hS : ∀ i, i < n → (S i).size ≤ 1048576) (hZ : ∀ i, i < n → (Z i).size ≤ 1048576) (hV : ∀ i, i < n → V i < 18446744073709551616) (i t : Nat) (hi : i < n) (ht : i + t ≤ n) : (encIn S Z V n i t).length ≤ (n + 1) * 2097200 := by
  unfold encIn
  split
  · rw [List.length_append]
    have h0 := enc_le hn hS hZ hV i (by omega)
    have h1 := hdr_le (S := S) (n := n) i (hS i hi) hn
    omega
  · exact Nat.le_trans (enc_le hn hS hZ hV (i + t) ht) (Nat.mul_le_mul (show i + t ≤ n + 1 by omega) (Nat.le_refl _))

theorem enc_split {k : Nat} : ∀ m, k < m → ∃ R, enc S Z V n m = enc S Z V n k ++ (hdr S n k ++ (bdy Z V k ++ R))
  | 0, h => by omega
  | m + 1, h => by
    rcases Nat.lt_or_ge k m with c | c
    · obtain ⟨R, hR⟩ := enc_split m c
      exact ⟨R ++ (hdr S n m ++ bdy Z V m), by simp only [enc]; rw [hR]; simp⟩
    · obtain rfl : k = m := by omega
      exact ⟨[], by simp [enc]⟩

/-- Where the k-th vouch's bytes lie. -/
theorem enc_lies {D : Nat → Nat} {p k : Nat} (h : Lies D p (enc S Z V n n)) (hk : k < n) : Lies D (p + (enc S Z V n k).length) (hdr S n k) ∧ Lies D (p + (enc S Z V n k).length + (hdr S n k).length) (bdy Z V k) ∧
    (enc S Z V n k).length + (hdr S n k).length + (bdy Z V k).length ≤ (enc S Z V n n).length := by
  obtain ⟨R, hR⟩ := enc_split (S := S) (Z := Z) (V := V) (n := n) n hk
  rw [hR] at h
  refine ⟨h.right.left, h.right.right.left, ?_⟩
  rw [hR]
  simp only [List.length_append]
  omega

theorem encIn_length {i t r : Nat} (h : Run S n i r) (ht : t < r) : (encIn S Z V n i t).length = (enc S Z V n (i + t)).length + (hdr S n (i + t)).length := by
  unfold encIn
  by_cases h0 : t = 0
  · subst h0
    rw [if_pos rfl, List.length_append]
    rfl
  · rw [if_neg h0, hdr, h.inner (by omega) ht]
    simp

/-- When g runs have been read and i vouches with them. -/
theorem cnt_run {i r : Nat} (h : Run S n i r) (hs : start S i = true) : cnt (start S) (i + r) = cnt (start S) i + 1 := by
  have key : ∀ t, 1 ≤ t → t ≤ r → cnt (start S) (i + t) = cnt (start S) i + 1 := by
    intro t
    induction t with
    | zero => intro h1; omega
    | succ t ih =>
      intro _ h2
      by_cases h0 : t = 0
      · subst h0
        simp [cnt, hs]
      · have := ih (by omega) (by omega)
        rw [← Nat.add_assoc]
        simp only [cnt]
        rw [this, h.inner (by omega) (by omega)]
        simp
  exact key r h.pos (Nat.le_refl _)
theorem cnt_mono (p : Nat → Bool) : ∀ {a b : Nat}, a ≤ b → cnt p a ≤ cnt p b
  | a, 0, h => by obtain rfl : a = 0 := (by omega); exact Nat.le_refl _
  | a, b + 1, h => by
    rcases Nat.lt_or_ge b a with c | c
    · obtain rfl : a = b + 1 := by omega
      exact Nat.le_refl _
    · have := cnt_mono p c
      simp only [cnt]
      omega
/-- A run begins at i, or all is read. -/
def AtRun (S : Nat → ByteArray) (n i : Nat) : Prop := i ≤ n ∧ (i < n → start S i = true)
theorem AtRun.done {i : Nat} (h : AtRun S n i) (hc : cnt (start S) n ≤ cnt (start S) i) : i = n := by
  rcases Nat.lt_or_ge i n with c | c
  · have h1 := cnt_mono (start S) (show i + 1 ≤ n from c)
    have h2 := h.2 c
    simp only [cnt, h2] at h1
    simp at h1
    omega
  · have := h.1; omega
theorem AtRun.next {i r : Nat} (h : Run S n i r) : AtRun S n (i + r) := ⟨h.fits, h.next⟩


theorem enc_ge : ∀ k, k ≤ (enc S Z V n k).length
  | 0 => Nat.zero_le _
  | k + 1 => by
    have ih := enc_ge k
    have h := Lib.uvarint_pos (V k)
    simp only [enc, List.length_append, bdy]
    omega
theorem Lies.shift {D : Nat → Nat} {p p' : Nat} {l : List UInt8} (h : Lies D p l) (e : p = p') : Lies D p' l := e ▸ h

end Go.Proofs.Qxb6003726a
