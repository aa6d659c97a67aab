/- The plain mathematics of the two laws on indentation: no Go in sight. -/
namespace Go.Proofs.Qxb6627995a

/-- The column at which the text starts, the blanks read on from column c. -/
def ind : Int → List Int → Int
  | c, [] => c
  | c, x :: l => if x = 32 then ind (c + 1) l else if x = 9 then ind (c + (4 - c % 4)) l else c

def isB (x : Int) : Bool := decide (x = 32) || decide (x = 9)
def isS (x : Int) : Bool := decide (x = 32)
def isT (x : Int) : Bool := decide (x = 9)

theorem ind_nil (c : Int) : ind c [] = c := rfl
theorem ind_space (c : Int) (l : List Int) : ind c (32 :: l) = ind (c + 1) l := by simp [ind]
theorem ind_tab (c : Int) (l : List Int) : ind c (9 :: l) = ind (c + (4 - c % 4)) l := by simp [ind]
theorem ind_stop (c : Int) {x : Int} (l : List Int) (h1 : ¬ x = 32) (h2 : ¬ x = 9) : ind c (x :: l) = c := by simp [ind, h1, h2]

theorem ind_bounds (l : List Int) : ∀ c : Int, 0 ≤ c → c ≤ ind c l ∧ ind c l ≤ c + 4 * l.length := by
  induction l with
  | nil => intro c h; simp [ind]
  | cons x l ih =>
    intro c h
    simp only [ind, List.length_cons]
    split
    · have := ih (c + 1) (by omega); omega
    · split
      · have := ih (c + (4 - c % 4)) (by omega); omega
      · omega

theorem ind_shift (l : List Int) : ∀ c m : Int, ind (c + 4 * m) l = ind c l + 4 * m := by
  induction l with
  | nil => intro c m; rfl
  | cons x l ih =>
    intro c m
    simp only [ind]
    split
    · rw [show c + 4 * m + 1 = c + 1 + 4 * m by omega, ih]
    · split
      · rw [show c + 4 * m + (4 - (c + 4 * m) % 4) = c + (4 - c % 4) + 4 * m by omega, ih]
      · rfl

theorem ind_append (l2 : List Int) (l1 : List Int) : ∀ c : Int, l1.all isB = true → ind c (l1 ++ l2) = ind (ind c l1) l2 := by
  induction l1 with
  | nil => intro c _; rfl
  | cons x l ih =>
    intro c h
    simp only [List.all_cons, Bool.and_eq_true] at h
    simp only [List.cons_append, ind]
    by_cases h1 : x = 32
    · simp only [h1, if_true]; exact ih _ h.2
    · by_cases h2 : x = 9
      · simp only [h2]; exact ih _ h.2
      · have := h.1; simp [isB, h1, h2] at this

theorem ind_stopped (l2 : List Int) (l1 : List Int) : ∀ c : Int, l1.all isB = false → ind c (l1 ++ l2) = ind c l1 := by
  induction l1 with
  | nil => intro c h; simp at h
  | cons x l ih =>
    intro c h
    simp only [List.all_cons] at h
    simp only [List.cons_append, ind]
    by_cases h1 : x = 32
    · simp only [h1, if_true]; exact ih _ (by simpa [isB, h1] using h)
    · by_cases h2 : x = 9
      · simp only [h2]; exact ih _ (by simpa [isB, h2] using h)
      · simp [h1, h2]

theorem ind_spaces (l : List Int) : ∀ c : Int, l.all isS = true → ind c l = c + l.length := by
  induction l with
  | nil => intro c _; simp [ind]
  | cons x l ih =>
    intro c h
    simp only [List.all_cons, Bool.and_eq_true] at h
    have hx : x = 32 := by have := h.1; simpa [isS] using this
    subst hx
    rw [ind_space, ih _ h.2, List.length_cons]
    omega

theorem ind_tabs (l : List Int) : ∀ c : Int, c % 4 = 0 → l.all isT = true → ind c l = c + 4 * l.length := by
  induction l with
  | nil => intro c _ _; simp [ind]
  | cons x l ih =>
    intro c hc h
    simp only [List.all_cons, Bool.and_eq_true] at h
    have hx : x = 9 := by have := h.1; simpa [isT] using this
    subst hx
    rw [ind_tab, ih _ (by omega) h.2, List.length_cons]
    omega

theorem all_take_succ (p : Int → Bool) (l : List Int) (j : Nat) (h : j < l.length) : (l.take (j + 1)).all p = ((l.take j).all p && p (l.getD j 0)) := by
  rw [List.take_succ_eq_append_getElem h, List.all_append]
  simp [List.getD, h]

theorem drop_cons (l : List Int) (k : Nat) (h : k < l.length) : l.drop k = l.getD k 0 :: l.drop (k + 1) := by
  rw [List.drop_eq_getElem_cons h]
  simp [List.getD, h]

/-- The tail read on: no tab among its blanks. -/
theorem read_on_plain (c : Int) (l : List Int) (j : Nat) (hj : j ≤ l.length) (hs : (l.take j).all isS = true) (hend : j = l.length ∨ (¬ l.getD j 0 = 32 ∧ ¬ l.getD j 0 = 9)) : ind c l = c + j := by
  have hb : (l.take j).all isB = true := by
    rw [List.all_eq_true] at hs ⊢
    intro x hx
    have := hs x hx
    simp only [isS, decide_eq_true_eq] at this
    simp [isB, this]
  have e : ind c l = ind (ind c (l.take j)) (l.drop j) := by
    rw [← ind_append _ _ _ hb, List.take_append_drop]
  rw [e, ind_spaces _ _ hs, List.length_take, Nat.min_eq_left hj]
  by_cases hl : j = l.length
  · rw [List.drop_eq_nil_of_le (by omega)]; rfl
  · rcases hend with h | ⟨h1, h2⟩
    · exact absurd h hl
    · rw [drop_cons l j (by omega), ind_stop _ _ h1 h2]

/-- The tail read on: its first blank past j spaces is a tab. -/
theorem read_on_tab (c : Int) (l : List Int) (j : Nat) (hj : j < l.length) (hs : (l.take j).all isS = true) (ht : l.getD j 0 = 9) : ind c l = ind (4 * ((c + j) / 4 + 1)) (l.drop (j + 1)) := by
  have hb : (l.take j).all isB = true := by
    rw [List.all_eq_true] at hs ⊢
    intro x hx
    have := hs x hx
    simp only [isS, decide_eq_true_eq] at this
    simp [isB, this]
  have e : ind c l = ind (ind c (l.take j)) (l.drop j) := by
    rw [← ind_append _ _ _ hb, List.take_append_drop]
  rw [e, ind_spaces _ _ hs, List.length_take, Nat.min_eq_left (by omega), drop_cons l j hj, ht, ind_tab]
  congr 1
  omega

/-- The law of the cut, a tab among the tail's blanks. -/
theorem cut_tab (c : Int) (l : List Int) (j : Nat) (hj : j < l.length) (hs : (l.take j).all isS = true) (ht : l.getD j 0 = 9) : ind c l = ind 0 l + 4 * ((c + j) / 4 - j / 4) := by
  rw [read_on_tab c l j hj hs ht, read_on_tab 0 l j hj hs ht, ← ind_shift]
  congr 1
  omega

end Go.Proofs.Qxb6627995a
