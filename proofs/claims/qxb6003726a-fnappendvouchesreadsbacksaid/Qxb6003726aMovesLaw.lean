import Derived.Test.Qxb6003726aBase
namespace Go.Proofs.Qxb6003726a

/-! The plain law of 'moves': no Go in sight but the order of strings. -/

theorem bl_irrefl : ∀ x : List UInt8, Op.bytesLess x x = false
  | [] => rfl
  | a :: x => by simp [Op.bytesLess, bl_irrefl x]

theorem bl_trans : ∀ x y z : List UInt8, Op.bytesLess x y = true → Op.bytesLess y z = true → Op.bytesLess x z = true
  | _, [], _, h, _ => by simp [Op.bytesLess] at h
  | _, _ :: _, [], _, h => by simp [Op.bytesLess] at h
  | [], _ :: _, _ :: _, _, _ => by simp [Op.bytesLess]
  | a :: x, b :: y, c :: z, h, k => by
    simp only [Op.bytesLess, Bool.or_eq_true, Bool.and_eq_true, decide_eq_true_eq, beq_iff_eq] at h k ⊢
    rcases h with h | ⟨rfl, h⟩
    · rcases k with k | ⟨rfl, k⟩
      · left; rw [UInt8.lt_iff_toNat_lt] at *; omega
      · left; exact h
    · rcases k with k | ⟨rfl, k⟩
      · left; exact k
      · right; exact ⟨rfl, bl_trans x y z h k⟩

theorem bl_tri : ∀ x y : List UInt8, Op.bytesLess x y = false → Op.bytesLess y x = false → x = y
  | [], [], _, _ => rfl
  | [], _ :: _, h, _ => by simp [Op.bytesLess] at h
  | _ :: _, [], _, h => by simp [Op.bytesLess] at h
  | a :: x, b :: y, h, k => by
    simp only [Op.bytesLess, Bool.or_eq_false_iff, decide_eq_false_iff_not, Bool.and_eq_false_imp, beq_iff_eq] at h k
    have hab : a = b := by
      apply UInt8.toNat_inj.1
      have h1 := h.1; have k1 := k.1
      rw [UInt8.lt_iff_toNat_lt] at h1 k1
      omega
    subst hab
    rw [bl_tri x y (h.2 rfl) (k.2 rfl)]

/-- 'a < b' on strings. -/
def blt (a b : ByteArray) : Prop := Op.bytesLess a.toList b.toList = true
theorem blt_trans {a b c : ByteArray} (h : blt a b) (k : blt b c) : blt a c := bl_trans _ _ _ h k
theorem blt_ne {a b : ByteArray} (h : blt a b) : a.toList ≠ b.toList := fun e => by
  unfold blt at h; rw [e, bl_irrefl] at h; cases h
theorem blt_congr_right {a b c : ByteArray} (h : blt a b) (e : b.toList = c.toList) : blt a c := by unfold blt at *; rw [← e]; exact h

theorem asc_lt {S : Nat → ByteArray} {n : Nat} (h : ∀ i, i + 1 < n → blt (S i) (S (i + 1))) (i : Nat) : ∀ d, i + (d + 1) < n → blt (S i) (S (i + (d + 1)))
  | 0, hd => h i (by omega)
  | d + 1, hd => blt_trans (asc_lt h i d (by omega)) (h (i + (d + 1)) (by omega))
theorem asc_lt' {S : Nat → ByteArray} {n : Nat} (h : ∀ i, i + 1 < n → blt (S i) (S (i + 1))) {i j : Nat} (hij : i < j) (hj : j < n) : blt (S i) (S j) := by
  have := asc_lt h i (j - i - 1) (by omega)
  rwa [show i + (j - i - 1 + 1) = j by omega] at this
theorem asc_inj {S : Nat → ByteArray} {n : Nat} (h : ∀ i, i + 1 < n → blt (S i) (S (i + 1))) {i j : Nat} (hi : i < n) (hj : j < n) (e : (S i).toList = (S j).toList) : i = j := by
  rcases Nat.lt_trichotomy i j with c | c | c
  · exact absurd e (blt_ne (asc_lt' h c hj))
  · exact c
  · exact absurd e.symm (blt_ne (asc_lt' h c hi))

/-- The standing of x in a placings list, None where absent. -/
def look (S : Nat → ByteArray) (T : Nat → Int) (x : ByteArray) : Nat → Int
  | 0 => 0
  | n + 1 => if (S n).toList = x.toList then T n else look S T x n

theorem look_absent {S : Nat → ByteArray} {T : Nat → Int} {x : ByteArray} : ∀ n, (∀ i, i < n → (S i).toList ≠ x.toList) → look S T x n = 0
  | 0, _ => rfl
  | n + 1, h => by
    simp only [look]
    rw [if_neg (h n (by omega))]
    exact look_absent n fun i hi => h i (by omega)

theorem look_at {S : Nat → ByteArray} {T : Nat → Int} {x : ByteArray} : ∀ n, (∀ i j, i < n → j < n → (S i).toList = (S j).toList → i = j) → ∀ i, i < n → (S i).toList = x.toList → look S T x n = T i
  | 0, _, i, hi, _ => by omega
  | n + 1, hinj, i, hi, e => by
    simp only [look]
    by_cases hn : (S n).toList = x.toList
    · rw [if_pos hn, hinj i n hi (by omega) (e.trans hn.symm)]
    · rw [if_neg hn]
      have : i < n := by
        rcases Nat.lt_or_ge i n with h | h
        · exact h
        · obtain rfl : i = n := by omega
          exact absurd e hn
      exact look_at n (fun i j hi hj => hinj i j (by omega) (by omega)) i this e

theorem finds_look {S : Nat → ByteArray} {T : Nat → Int} {x : ByteArray} {n : Nat} {v : Int} (hinj : ∀ i j, i < n → j < n → (S i).toList = (S j).toList → i = j) (h : Finds S T n x v) : v = look S T x n := by
  rcases h with ⟨i, hi, e, rfl⟩ | ⟨h, rfl⟩
  · exact (look_at n hinj i hi e).symm
  · exact (look_absent n h).symm

/-- How many k below the bound. -/
def cnt (p : Nat → Bool) : Nat → Nat
  | 0 => 0
  | k + 1 => cnt p k + if p k then 1 else 0
theorem cnt_le (p : Nat → Bool) : ∀ k, cnt p k ≤ k
  | 0 => Nat.le_refl _
  | k + 1 => by simp only [cnt]; have := cnt_le p k; split <;> omega

/-- Two placings lists as the law wants them. -/
structure Lists (S S' : Nat → ByteArray) (T T' : Nat → Int) (n m : Nat) : Prop where
  asc : ∀ i, i + 1 < n → blt (S i) (S (i + 1))
  asc' : ∀ i, i + 1 < m → blt (S' i) (S' (i + 1))
  nz : ∀ i, i < n → T i ≠ 0
  nz' : ∀ i, i < m → T' i ≠ 0

def difA (S S' : Nat → ByteArray) (T T' : Nat → Int) (m : Nat) (i : Nat) : Bool := decide (look S' T' (S i) m ≠ T i)
def difB (S S' : Nat → ByteArray) (T : Nat → Int) (n : Nat) (j : Nat) : Bool := decide (look S T (S' j) n = 0)

/-- What holds of the changes gathered when i of was and j of now are done. -/
structure Inv (S S' : Nat → ByteArray) (T T' : Nat → Int) (n m i j : Nat) (ch : List (ByteArray × Int × Int)) : Prop where
  hi : i ≤ n
  hj : j ≤ m
  asc : ch.Pairwise fun c d => blt c.1 d.1
  each : ∀ c ∈ ch, c.2.1 ≠ c.2.2 ∧ c.2.1 = look S T c.1 n ∧ c.2.2 = look S' T' c.1 m
  under : ∀ c ∈ ch, (i < n → blt c.1 (S i)) ∧ (j < m → blt c.1 (S' j))
  cross : i < n → ∀ k, k < j → blt (S' k) (S i)
  cross' : j < m → ∀ k, k < i → blt (S k) (S' j)
  len : ch.length = cnt (difA S S' T T' m) i + cnt (difB S S' T n) j

variable {S S' : Nat → ByteArray} {T T' : Nat → Int} {n m i j : Nat} {ch : List (ByteArray × Int × Int)}

theorem Inv.start : Inv S S' T T' n m 0 0 [] :=
  ⟨Nat.zero_le _, Nat.zero_le _, .nil, by simp, by simp, fun _ k hk => by omega, fun _ k hk => by omega, rfl⟩

theorem Lists.inj (L : Lists S S' T T' n m) : ∀ i j, i < n → j < n → (S i).toList = (S j).toList → i = j := fun _ _ hi hj => asc_inj L.asc hi hj
theorem Lists.inj' (L : Lists S S' T T' n m) : ∀ i j, i < m → j < m → (S' i).toList = (S' j).toList → i = j := fun _ _ hi hj => asc_inj L.asc' hi hj

/-- was[i] is not in now. -/
theorem Inv.stepA (L : Lists S S' T T' n m) (h : Inv S S' T T' n m i j ch) (hi : i < n) (hc : j = m ∨ blt (S i) (S' j)) : Inv S S' T T' n m (i + 1) j (ch ++ [(S i, T i, 0)]) := by
  have hab : ∀ k, k < m → (S' k).toList ≠ (S i).toList := fun k hk => by
    rcases Nat.lt_or_ge k j with c | c
    · exact blt_ne (h.cross hi k c)
    · rcases hc with hc | hc
      · omega
      · rcases Nat.lt_or_ge j k with d | d
        · exact (blt_ne (blt_trans hc (asc_lt' L.asc' d hk))).symm
        · obtain rfl : k = j := by omega
          exact (blt_ne hc).symm
  have h0 : look S' T' (S i) m = 0 := look_absent m hab
  refine ⟨hi, h.hj, ?_, ?_, ?_, ?_, ?_, ?_⟩
  · refine List.pairwise_append.2 ⟨h.asc, List.pairwise_singleton _ _, fun c hc d hd => ?_⟩
    simp only [List.mem_singleton] at hd; subst hd
    exact (h.under c hc).1 hi
  · intro c hc
    rcases List.mem_append.1 hc with hc | hc
    · exact h.each c hc
    · simp only [List.mem_singleton] at hc; subst hc
      exact ⟨L.nz i hi, (look_at n L.inj i hi rfl).symm, h0.symm⟩
  · intro c hc'
    rcases List.mem_append.1 hc' with hc' | hc'
    · exact ⟨fun h1 => blt_trans ((h.under c hc').1 hi) (L.asc i h1), (h.under c hc').2⟩
    · simp only [List.mem_singleton] at hc'; subst hc'
      exact ⟨fun h1 => L.asc i h1, fun h1 => by rcases hc with hc | hc; omega; exact hc⟩
  · exact fun h1 k hk => blt_trans (h.cross hi k hk) (L.asc i h1)
  · intro h1 k hk
    rcases Nat.lt_or_ge k i with c | c
    · exact h.cross' h1 k c
    · obtain rfl : k = i := by omega
      rcases hc with hc | hc
      · omega
      · exact hc
  · have hd : difA S S' T T' m i = true := by simp only [difA, h0]; exact decide_eq_true (fun e => L.nz i hi e.symm)
    simp only [List.length_append, List.length_singleton, cnt, hd, h.len]
    simp; omega

/-- now[j] is not in was. -/
theorem Inv.stepB (L : Lists S S' T T' n m) (h : Inv S S' T T' n m i j ch) (hj : j < m) (hc : i = n ∨ blt (S' j) (S i)) : Inv S S' T T' n m i (j + 1) (ch ++ [(S' j, 0, T' j)]) := by
  have hab : ∀ k, k < n → (S k).toList ≠ (S' j).toList := fun k hk => by
    rcases Nat.lt_or_ge k i with c | c
    · exact blt_ne (h.cross' hj k c)
    · rcases hc with hc | hc
      · omega
      · rcases Nat.lt_or_ge i k with d | d
        · exact (blt_ne (blt_trans hc (asc_lt' L.asc d hk))).symm
        · obtain rfl : k = i := by omega
          exact (blt_ne hc).symm
  have h0 : look S T (S' j) n = 0 := look_absent n hab
  refine ⟨h.hi, hj, ?_, ?_, ?_, ?_, ?_, ?_⟩
  · refine List.pairwise_append.2 ⟨h.asc, List.pairwise_singleton _ _, fun c hc d hd => ?_⟩
    simp only [List.mem_singleton] at hd; subst hd
    exact (h.under c hc).2 hj
  · intro c hc
    rcases List.mem_append.1 hc with hc | hc
    · exact h.each c hc
    · simp only [List.mem_singleton] at hc; subst hc
      exact ⟨(L.nz' j hj).symm, h0.symm, (look_at m L.inj' j hj rfl).symm⟩
  · intro c hc'
    rcases List.mem_append.1 hc' with hc' | hc'
    · exact ⟨(h.under c hc').1, fun h1 => blt_trans ((h.under c hc').2 hj) (L.asc' j h1)⟩
    · simp only [List.mem_singleton] at hc'; subst hc'
      exact ⟨fun h1 => by rcases hc with hc | hc; omega; exact hc, fun h1 => L.asc' j h1⟩
  · intro h1 k hk
    rcases Nat.lt_or_ge k j with c | c
    · exact h.cross h1 k c
    · obtain rfl : k = j := by omega
      rcases hc with hc | hc
      · omega
      · exact hc
  · exact fun h1 k hk => blt_trans (h.cross' hj k hk) (L.asc' j h1)
  · have hd : difB S S' T n j = true := by simp only [difB, h0]; rfl
    simp only [List.length_append, List.length_singleton, cnt, hd, h.len]
    simp; omega

theorem Inv.stepC (L : Lists S S' T T' n m) (h : Inv S S' T T' n m i j ch) (hi : i < n) (hj : j < m) (e : (S i).toList = (S' j).toList) :
    Inv S S' T T' n m (i + 1) (j + 1) (if T i = T' j then ch else ch ++ [(S' j, T i, T' j)]) := by
  have l1 : look S T (S' j) n = T i := look_at n L.inj i hi e
  have l2 : look S' T' (S i) m = T' j := look_at m L.inj' j hj e.symm
  have l3 : look S' T' (S' j) m = T' j := look_at m L.inj' j hj rfl
  have e1 : ∀ c, blt c (S i) → i + 1 < n → blt c (S (i + 1)) := fun c hc h1 => blt_trans hc (L.asc i h1)
  have e2 : ∀ c, blt c (S' j) → j + 1 < m → blt c (S' (j + 1)) := fun c hc h1 => blt_trans hc (L.asc' j h1)
  have e3 : i + 1 < n → blt (S' j) (S (i + 1)) := fun h1 => by have := L.asc i h1; unfold blt at *; rw [← e]; exact this
  have e4 : j + 1 < m → blt (S i) (S' (j + 1)) := fun h1 => by have := L.asc' j h1; unfold blt at *; rw [e]; exact this
  have hdB : difB S S' T n j = false := by simp only [difB, l1]; exact decide_eq_false (L.nz i hi)
  have cr1 : i + 1 < n → ∀ k, k < j + 1 → blt (S' k) (S (i + 1)) := fun h1 k hk => by
    rcases Nat.lt_or_ge k j with c | c
    · exact e1 _ (h.cross hi k c) h1
    · obtain rfl : k = j := by omega
      exact e3 h1
  have cr2 : j + 1 < m → ∀ k, k < i + 1 → blt (S k) (S' (j + 1)) := fun h1 k hk => by
    rcases Nat.lt_or_ge k i with c | c
    · exact e2 _ (h.cross' hj k c) h1
    · obtain rfl : k = i := by omega
      exact e4 h1
  by_cases ht : T i = T' j
  · rw [if_pos ht]
    refine ⟨hi, hj, h.asc, h.each, fun c hc => ⟨e1 _ ((h.under c hc).1 hi), e2 _ ((h.under c hc).2 hj)⟩, cr1, cr2, ?_⟩
    have hdA : difA S S' T T' m i = false := by simp only [difA, l2]; exact decide_eq_false (fun hne => hne ht.symm)
    simp only [cnt, hdA, hdB, h.len]; simp
  · rw [if_neg ht]
    refine ⟨hi, hj, ?_, ?_, ?_, cr1, cr2, ?_⟩
    · refine List.pairwise_append.2 ⟨h.asc, List.pairwise_singleton _ _, fun c hc d hd => ?_⟩
      simp only [List.mem_singleton] at hd; subst hd
      exact (h.under c hc).2 hj
    · intro c hc
      rcases List.mem_append.1 hc with hc | hc
      · exact h.each c hc
      · simp only [List.mem_singleton] at hc; subst hc
        exact ⟨ht, l1.symm, l3.symm⟩
    · intro c hc
      rcases List.mem_append.1 hc with hc | hc
      · exact ⟨e1 _ ((h.under c hc).1 hi), e2 _ ((h.under c hc).2 hj)⟩
      · simp only [List.mem_singleton] at hc; subst hc
        exact ⟨e3, L.asc' j⟩
    · have hdA : difA S S' T T' m i = true := by simp only [difA, l2]; exact decide_eq_true (fun hne => ht hne.symm)
      simp only [List.length_append, List.length_singleton, cnt, hdA, hdB, h.len]; simp; omega

end Go.Proofs.Qxb6003726a
