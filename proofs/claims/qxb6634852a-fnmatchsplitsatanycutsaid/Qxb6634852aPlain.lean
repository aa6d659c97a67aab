/- The plain mathematics of the two laws: no Go in sight. -/
namespace Go.Proofs.Qxb6634852a

/-- Is this level the five bytes 'match'? -/
def isM (s : ByteArray) : Bool := s.toList == [109, 97, 116, 99, 104]

/-- Are the first n levels all 'match'? -/
def allM (f : Nat → ByteArray) : Nat → Bool
  | 0 => true
  | n + 1 => allM f n && isM (f n)

theorem allM_true (f : Nat → ByteArray) (n : Nat) : allM f n = true ↔ ∀ i, i < n → isM (f i) = true := by
  induction n with
  | zero => simp [allM]
  | succ n ih =>
    simp only [allM, Bool.and_eq_true, ih]
    constructor
    · rintro ⟨h, hn⟩ i hi
      by_cases e : i = n
      · subst e; exact hn
      · exact h i (by omega)
    · intro h
      exact ⟨fun i hi => h i (by omega), h n (by omega)⟩

theorem allM_false {f : Nat → ByteArray} {n k : Nat} (hk : k < n) (h : isM (f k) = false) : allM f n = false := by
  cases e : allM f n with
  | false => rfl
  | true => rw [(allM_true f n).1 e k hk] at h; cases h

theorem allM_congr {f g : Nat → ByteArray} {n : Nat} (h : ∀ i, i < n → f i = g i) : allM f n = allM g n := by
  induction n with
  | zero => rfl
  | succ n ih => simp only [allM, ih (fun i hi => h i (by omega)), h n (by omega)]

/-- The whole is the head and the tail. -/
theorem allM_split (f : Nat → ByteArray) (k m : Nat) : allM f (k + m) = (allM f k && allM (fun i => f (k + i)) m) := by
  induction m with
  | zero => simp [allM]
  | succ m ih => rw [← Nat.add_assoc]; simp only [allM, ih, Bool.and_assoc]

/-- How many of the first n levels differ from 'match'. -/
def badM (f : Nat → ByteArray) : Nat → Nat
  | 0 => 0
  | n + 1 => badM f n + (if isM (f n) = true then 0 else 1)

theorem badM_le (f : Nat → ByteArray) (n : Nat) : badM f n ≤ n := by
  induction n with
  | zero => simp [badM]
  | succ n ih => simp only [badM]; split <;> omega

theorem badM_succ_bad {f : Nat → ByteArray} {j : Nat} (h : (!(f j).toList == [109, 97, 116, 99, 104]) = true) : badM f (j + 1) = badM f j + 1 := by
  have : isM (f j) = false := by unfold isM; simpa using h
  simp [badM, this]

theorem badM_succ_ok {f : Nat → ByteArray} {j : Nat} (h : (!(f j).toList == [109, 97, 116, 99, 104]) = false) : badM f (j + 1) = badM f j := by
  have : isM (f j) = true := by unfold isM; simpa using h
  simp [badM, this]

theorem badM_zero (f : Nat → ByteArray) (n : Nat) : (badM f n = 0) ↔ allM f n = true := by
  induction n with
  | zero => simp [badM, allM]
  | succ n ih =>
    simp only [badM, allM, Bool.and_eq_true, ← ih]
    split <;> simp_all

/-- The list with x put in at place n. -/
def insM (f : Nat → ByteArray) (x : ByteArray) (n : Nat) : Nat → ByteArray := fun i => if i < n then f i else if i = n then x else f (i - 1)

theorem allM_ins (f : Nat → ByteArray) (x : ByteArray) (n len : Nat) (h : n ≤ len) : allM (insM f x n) (len + 1) = (isM x && allM f len) := by
  rw [Bool.eq_iff_iff, Bool.and_eq_true, allM_true, allM_true]
  constructor
  · intro hall
    refine ⟨?_, fun i hi => ?_⟩
    · have := hall n (by omega)
      simpa [insM] using this
    · by_cases h1 : i < n
      · have := hall i (by omega)
        simpa [insM, h1] using this
      · have := hall (i + 1) (by omega)
        simpa [insM, show ¬ i + 1 < n by omega, show ¬ i + 1 = n by omega] using this
  · rintro ⟨hx, hall⟩ i hi
    unfold insM
    split
    · exact hall i (by omega)
    · split
      · exact hx
      · exact hall (i - 1) (by omega)

end Go.Proofs.Qxb6634852a
