/- The plain mathematics of the two laws on package names: no Go in sight. -/
namespace Go.Proofs.Qxb6627966aFmt

/-- May this byte stand in a package name? -/
def okN (n : Int) : Bool := decide ((97 ≤ n ∧ n ≤ 122) ∨ (48 ≤ n ∧ n ≤ 57) ∨ n = 45 ∨ n = 46 ∨ n = 95)
def okc (c : UInt8) : Bool := okN (c.toNat : Int)

/-- May this byte open one? -/
def okF (c : UInt8) : Bool := okc c && decide (¬ (c.toNat : Int) = 46) && decide (¬ (c.toNat : Int) = 95)

/-- Is this a package name? -/
def good : List UInt8 → Bool
  | [] => false
  | c :: l => decide ((c :: l).length ≤ 214) && okF c && l.all okc

theorem good_nil : good [] = false := rfl

theorem good_long {l : List UInt8} (h : 214 < l.length) : good l = false := by
  cases l with
  | nil => rfl
  | cons c l => simp only [good]; rw [decide_eq_false (by omega)]; simp

theorem good_first {l : List UInt8} {c : UInt8} (h : l.head? = some c) (hc : (c.toNat : Int) = 46 ∨ (c.toNat : Int) = 95) : good l = false := by
  cases l with
  | nil => rfl
  | cons d l =>
    simp only [List.head?_cons, Option.some.injEq] at h
    subst h
    have : okF d = false := by
      unfold okF
      rcases hc with hc | hc <;> simp [hc]
    simp [good, this]

theorem good_bad {l : List UInt8} {k : Nat} (hk : k < l.length) (h : okc l[k] = false) : good l = false := by
  cases l with
  | nil => rfl
  | cons c l =>
    cases k with
    | zero =>
      simp only [List.getElem_cons_zero] at h
      simp [good, okF, h]
    | succ k =>
      simp only [List.getElem_cons_succ] at h
      have hk' : k < l.length := by simpa using hk
      have : l.all okc = false := by
        cases e : l.all okc with
        | false => rfl
        | true =>
          have := List.all_eq_true.1 e l[k] (List.getElem_mem hk')
          rw [h] at this
          cases this
      simp [good, this]

theorem good_ok {l : List UInt8} {c : UInt8} (h0 : l.head? = some c) (h1 : l.length ≤ 214) (h46 : ¬ (c.toNat : Int) = 46) (h95 : ¬ (c.toNat : Int) = 95) (hall : ∀ (k : Nat) (h : k < l.length), okc l[k] = true) : good l = true := by
  cases l with
  | nil => simp at h0
  | cons d l =>
    simp only [List.head?_cons, Option.some.injEq] at h0
    subst h0
    have hd : okc d = true := hall 0 (by simp)
    have hl : l.all okc = true := by
      rw [List.all_eq_true]
      intro x hx
      obtain ⟨i, hi, rfl⟩ := List.getElem_of_mem hx
      have := hall (i + 1) (by simpa using hi)
      simpa using this
    simp only [good, okF, hd, hl, h46, h95]
    simp only [List.length_cons] at h1
    simp [h1]

/-- The law of the cut. -/
theorem good_split (l : List UInt8) (k : Nat) (h1 : 1 ≤ k) (h2 : k < l.length) : good l = (decide (l.length ≤ 214) && good (l.take k) && good (48 :: l.drop k)) := by
  cases l with
  | nil => simp at h2
  | cons c l =>
    obtain ⟨j, rfl⟩ : ∃ j, k = j + 1 := ⟨k - 1, by omega⟩
    simp only [List.length_cons] at h2
    by_cases hl : (c :: l).length ≤ 214
    · have e1 : decide ((c :: l.take j).length ≤ 214) = true := decide_eq_true (by simp only [List.length_cons, List.length_take] at *; omega)
      have e2 : decide ((48 :: l.drop j).length ≤ 214) = true := decide_eq_true (by simp only [List.length_cons, List.length_drop] at *; omega)
      have e3 : okF 48 = true := by decide
      have e4 : l.all okc = ((l.take j).all okc && (l.drop j).all okc) := by rw [← List.all_append, List.take_append_drop]
      simp only [List.take_succ_cons, List.drop_succ_cons, good, e1, e2, e3, e4, decide_eq_true hl, Bool.true_and, Bool.and_assoc]
    · rw [good_long (by omega), decide_eq_false hl]
      simp

end Go.Proofs.Qxb6627966aFmt
