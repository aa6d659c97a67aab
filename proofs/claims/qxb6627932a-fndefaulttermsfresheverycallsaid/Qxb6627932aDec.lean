import Derived.Test.Qxb6627932aBig
namespace Go.Proofs.Qxb6627932a
open Go.RowKit

set_option maxHeartbeats 400000 in
theorem coef_any (p : Nat) (x n : Int) (w : World) (h : BigI w p n) :
    Calls Try.prog 7 #[.agg #[.pointer (some ⟨p, 0, none⟩), .int .i32 x]] w fun e w' => ∃ z, e = .returned (.pointer (some ⟨z, 0, none⟩)) ∧ BigI w' z n ∧ Below w.heap.size w w' := by
  have hp : p < w.heap.size := by obtain ⟨q, b1, _⟩ := h; exact b1.lt
  have hB : Below w.heap.size w ((w.alloc (.cells #[.pointer (some ⟨p, 0, none⟩), .int .i32 x] 26)).alloc (.cells #[.bool false, .slice none 0 0] 58)) :=
    ((Below.refl _ w).alloc (Nat.le_refl _) _).alloc (by simp) _
  go_enter Try.func7, Try.ntmps7
  go_wp2_with fail
  refine (ensure_any w.heap.size p x _ (Blk.new _ _ _)).mono ?_
  rintro e w' ⟨rfl, rfl⟩
  go_wp2_with fail
  refine (intSet_any (w.heap.size + 1) p n _ (by simpa using Blk.new (w.alloc (.cells #[.pointer (some ⟨p, 0, none⟩), .int .i32 x] 26)) #[.bool false, .slice none 0 0] 58) (by omega) (h.below hB)).mono ?_
  rintro e w' ⟨rfl, hz, hb⟩
  go_wp2_with fail
  go_ret
  exact ⟨_, rfl, hz, hB.trans (hb.mono (by omega))⟩

set_option maxHeartbeats 400000 in
theorem newInt_any (n : Int) (w : World) (h0 : 0 < n) (h1 : n ≤ 1000000) :
    Calls Try.prog 27 #[.int .i64 n] w fun e w' => ∃ p, e = .returned (.pointer (some ⟨p, 0, none⟩)) ∧ BigIn w' w.heap.size w'.heap.size p n ∧ Below w.heap.size w w' := by
  have hd : decide (n < 0) = false := decide_eq_false (by omega)
  go_enter Try.func27, Try.ntmps27
  go_wp2
  go_ret
  refine ⟨_, rfl, ⟨w.heap.size, by omega, Nat.le_refl _, by simp, by simp; omega, by simpa [hd] using Blk.new (w.alloc (.cells #[.int .u64 n] 67)) #[.bool (decide (n < 0)), .slice (some ⟨w.heap.size, 0, none⟩) 1 1] 58, (Blk.new w _ _).alloc _⟩, ((Below.refl _ w).alloc (Nat.le_refl _) _).alloc (by simp) _⟩

set_option maxHeartbeats 400000 in
theorem new_any (n x : Int) (w : World) (h0 : 0 < n) (h1 : n ≤ 1000000) :
    Calls Try.prog 13 #[.int .i64 n, .int .i32 x] w fun e w' => ∃ p, e = .returned (.agg #[.pointer (some ⟨p, 0, none⟩), .int .i32 x]) ∧ BigIn w' w.heap.size w'.heap.size p n ∧ Below w.heap.size w w' := by
  go_enter Try.func13, Try.ntmps13
  go_wp2_with fail
  refine (newInt_any n _ h0 h1).mono ?_
  rintro e w1 ⟨p, rfl, hp, hb⟩
  have hk : Blk w1 w.heap.size #[.pointer none, .int .i32 0] 26 := (Blk.new w _ _).below hb (by simp)
  have k0 := hk.cell 0
  have k1 := hk.cell 1
  have f0 := hk.frozen 0
  have f1 := hk.frozen 1
  simp at k0 k1
  have hl := hk.lt
  go_wp2_with fail
  have e0 := (hk.set 0 (.pointer (some ⟨p, 0, none⟩))).cell 0
  have e1 := ((hk.set 0 (.pointer (some ⟨p, 0, none⟩))).set 1 (.int .i32 x)).cell 1
  simp at e0 e1
  refine bodyPost_ret (v := .agg #[.pointer (some ⟨p, 0, none⟩), .int .i32 x]) (by simp [results, Try.results13, go_sem, e0, e1]) rfl ⟨p, rfl, ?_⟩
  obtain ⟨q, g1, g2, g3, g4, bp, bq⟩ := hp
  simp only [World.size_alloc] at g1 g2
  refine ⟨⟨q, by omega, by omega, by simpa [World.setCell] using g3, by simpa [World.setCell] using g4, (bp.setOther (by simp; omega) _).setOther (by simp; omega) _, (bq.setOther (by simp; omega) _).setOther (by simp; omega) _⟩, ?_⟩
  exact ((((Below.refl _ w).alloc (Nat.le_refl _) _).trans (hb.mono (by simp))).setCell (Nat.le_refl _) _).setCell (Nat.le_refl _) _

/-- The cells of the default TieredTerms. -/
def tcells (p1 p2 : Nat) : Array Value := #[.int .u64 0, .int .i64 0, .pointer none, .slice none 0 0, .int .i64 0, .bool false, .int .i64 0, .int .i64 0, .int .i64 0, .int .i64 0, .pointer (some ⟨p1, 0, none⟩), .int .i32 (-3), .pointer (some ⟨p2, 0, none⟩), .int .i32 (-3)]

/-- The default Terms, their TieredTerms at the head of block t. -/
def terms (t : Nat) : Value := .agg #[.int .i64 0, .int .i32 3, .pointer (some ⟨t, 0, none⟩), .pointer none, .int .i32 0, .int .i64 0, .pointer none, .map none, .map none, .map none, .map none, .map none, .map none]

/-- Block t holds the default TieredTerms; all its blocks lie from 'base' on. -/
def TT (w : World) (base t : Nat) : Prop := ∃ p1 p2, base ≤ t ∧ Blk w t (tcells p1 p2) 46 ∧ BigIn w base w.heap.size p1 250 ∧ BigIn w base w.heap.size p2 1500

theorem BigIn.below {w w' : World} {base B p : Nat} {n : Int} (h : BigIn w base w.heap.size p n) (hb : Below B w w') (hB : w.heap.size ≤ B) : BigIn w' base w'.heap.size p n := by
  obtain ⟨q, h1, h2, h3, h4, h5, h6⟩ := h
  have := hb.size
  exact ⟨q, h1, h2, by omega, by omega, h5.below hb (by omega), h6.below hb (by omega)⟩

theorem BigIn.mono {w : World} {base base' top p : Nat} {n : Int} (h : BigIn w base top p n) (hb : base' ≤ base) : BigIn w base' top p n := by
  obtain ⟨q, h1, h2, h3, h4, h5, h6⟩ := h
  exact ⟨q, by omega, by omega, h3, h4, h5, h6⟩

theorem BigIn.setOther {w : World} {base top p : Nat} {n : Int} (h : BigIn w base top p n) {a : Addr} (ha : a.block < base) (v : Value) : BigIn (w.setCell a v) base top p n := by
  obtain ⟨q, h1, h2, h3, h4, h5, h6⟩ := h
  exact ⟨q, h1, h2, h3, h4, h5.setOther (by omega) v, h6.setOther (by omega) v⟩

theorem BigIn.alloc {w : World} {base top p : Nat} {n : Int} (h : BigIn w base top p n) (ht : w.heap.size = top) (o : Obj) : BigIn (w.alloc o) base (w.alloc o).heap.size p n := by
  obtain ⟨q, h1, h2, h3, h4, h5, h6⟩ := h
  exact ⟨q, h1, h2, by simp; omega, by simp; omega, h5.alloc o, h6.alloc o⟩

theorem TT.below {w w' : World} {base t : Nat} (h : TT w base t) (hb : Below w.heap.size w w') : TT w' base t := by
  obtain ⟨p1, p2, h1, h2, h3, h4⟩ := h
  exact ⟨p1, p2, h1, h2.below hb h2.lt, h3.below hb (Nat.le_refl _), h4.below hb (Nat.le_refl _)⟩

theorem results5 (tmps : Array Value) (W : World) (N t : Nat) (h0 : tmps.getD 0 undef = .pointer (some ⟨N, 0, none⟩))
    (hk : Blk W N #[.int .i64 0, .int .i32 3, .pointer (some ⟨t, 0, none⟩), .pointer none, .int .i32 0, .int .i64 0, .pointer none, .map none, .map none, .map none, .map none, .map none, .map none] 33) :
    (results Try.f5 tmps).run Try.prog W = .ok (terms t) W := by
  have c0 := hk.cell 0
  have c1 := hk.cell 1
  have c2 := hk.cell 2
  have c3 := hk.cell 3
  have c4 := hk.cell 4
  have c5 := hk.cell 5
  have c6 := hk.cell 6
  have c7 := hk.cell 7
  have c8 := hk.cell 8
  have c9 := hk.cell 9
  have c10 := hk.cell 10
  have c11 := hk.cell 11
  have c12 := hk.cell 12
  simp at h0 c0 c1 c2 c3 c4 c5 c6 c7 c8 c9 c10 c11 c12
  simp [results, Try.results5, go_sem, terms, h0, c0, c1, c2, c3, c4, c5, c6, c7, c8, c9, c10, c11, c12]

set_option maxHeartbeats 1000000 in
theorem default_any (w : World) :
    Calls Try.prog 5 #[] w fun e w' => ∃ t, e = .returned (terms t) ∧ TT w' w.heap.size t ∧ Below w.heap.size w w' := by
  go_enter Try.func5, Try.ntmps5
  go_wp2_with fail
  refine (new_any 250 (-3) _ (by omega) (by omega)).mono ?_
  rintro e w1 ⟨p1, rfl, hp1, hb1⟩
  go_wp2_with fail
  refine (new_any 1500 (-3) _ (by omega) (by omega)).mono ?_
  rintro e w2 ⟨p2, rfl, hp2, hb2⟩
  have hb12 := hb1.trans (hb2.mono hb1.size)
  have hk : Blk w2 w.heap.size #[.int .i64 0, .int .i32 0, .pointer none, .pointer none, .int .i32 0, .int .i64 0, .pointer none, .map none, .map none, .map none, .map none, .map none, .map none] 33 := (Blk.new w _ _).below hb12 (by simp)
  have c0 := hk.cell 0
  have f0 := hk.frozen 0
  have c1 := hk.cell 1
  have f1 := hk.frozen 1
  have c2 := hk.cell 2
  have f2 := hk.frozen 2
  have c3 := hk.cell 3
  have f3 := hk.frozen 3
  have c4 := hk.cell 4
  have f4 := hk.frozen 4
  have c5 := hk.cell 5
  have f5 := hk.frozen 5
  have c6 := hk.cell 6
  have f6 := hk.frozen 6
  have c7 := hk.cell 7
  have f7 := hk.frozen 7
  have c8 := hk.cell 8
  have f8 := hk.frozen 8
  have c9 := hk.cell 9
  have f9 := hk.frozen 9
  have c10 := hk.cell 10
  have f10 := hk.frozen 10
  have c11 := hk.cell 11
  have f11 := hk.frozen 11
  have c12 := hk.cell 12
  have f12 := hk.frozen 12
  simp at c0 c1 c2 c3 c4 c5 c6 c7 c8 c9 c10 c11 c12
  have hl := hk.lt
  go_wp2_with fail
  refine bodyPost_ret (v := terms w2.heap.size) (results5 _ _ w.heap.size _ rfl (by simpa using (((((((((((((hk.set 0 (.int .i64 0)).set 1 (.int .i32 3)).set 2 (.pointer (some ⟨w2.heap.size, 0, none⟩))).set 3 (.pointer none)).set 4 (.int .i32 0)).set 5 (.int .i64 0)).set 6 (.pointer none)).set 7 (.map none)).set 8 (.map none)).set 9 (.map none)).set 10 (.map none)).set 11 (.map none)).set 12 (.map none)).alloc _)) rfl ⟨w2.heap.size, rfl, ?_⟩
  have g1 := (hp1.below hb2 (Nat.le_refl _))
  have g2 := hp2.mono hb1.size
  simp only [World.size_alloc] at g1 g2
  have hsz : (((((((((((((w2.setCell ⟨w.heap.size, 0, none⟩ (.int .i64 0)).setCell ⟨w.heap.size, 1, none⟩ (.int .i32 3)).setCell ⟨w.heap.size, 2, none⟩ (.pointer (some ⟨w2.heap.size, 0, none⟩))).setCell ⟨w.heap.size, 3, none⟩ (.pointer none)).setCell ⟨w.heap.size, 4, none⟩ (.int .i32 0)).setCell ⟨w.heap.size, 5, none⟩ (.int .i64 0)).setCell ⟨w.heap.size, 6, none⟩ (.pointer none)).setCell ⟨w.heap.size, 7, none⟩ (.map none)).setCell ⟨w.heap.size, 8, none⟩ (.map none)).setCell ⟨w.heap.size, 9, none⟩ (.map none)).setCell ⟨w.heap.size, 10, none⟩ (.map none)).setCell ⟨w.heap.size, 11, none⟩ (.map none)).setCell ⟨w.heap.size, 12, none⟩ (.map none)).heap.size = w2.heap.size := by simp [World.setCell]
  have hnew := Blk.new (((((((((((((w2.setCell ⟨w.heap.size, 0, none⟩ (.int .i64 0)).setCell ⟨w.heap.size, 1, none⟩ (.int .i32 3)).setCell ⟨w.heap.size, 2, none⟩ (.pointer (some ⟨w2.heap.size, 0, none⟩))).setCell ⟨w.heap.size, 3, none⟩ (.pointer none)).setCell ⟨w.heap.size, 4, none⟩ (.int .i32 0)).setCell ⟨w.heap.size, 5, none⟩ (.int .i64 0)).setCell ⟨w.heap.size, 6, none⟩ (.pointer none)).setCell ⟨w.heap.size, 7, none⟩ (.map none)).setCell ⟨w.heap.size, 8, none⟩ (.map none)).setCell ⟨w.heap.size, 9, none⟩ (.map none)).setCell ⟨w.heap.size, 10, none⟩ (.map none)).setCell ⟨w.heap.size, 11, none⟩ (.map none)).setCell ⟨w.heap.size, 12, none⟩ (.map none)) (tcells p1 p2) 46
  rw [hsz] at hnew
  refine ⟨⟨p1, p2, by omega, hnew, ?_, ?_⟩, ?_⟩
  · exact ((((((((((((((g1.setOther (Nat.lt_succ_self _) _).setOther (Nat.lt_succ_self _) _).setOther (Nat.lt_succ_self _) _).setOther (Nat.lt_succ_self _) _).setOther (Nat.lt_succ_self _) _).setOther (Nat.lt_succ_self _) _).setOther (Nat.lt_succ_self _) _).setOther (Nat.lt_succ_self _) _).setOther (Nat.lt_succ_self _) _).setOther (Nat.lt_succ_self _) _).setOther (Nat.lt_succ_self _) _).setOther (Nat.lt_succ_self _) _).setOther (Nat.lt_succ_self _) _).alloc (by rw [hsz]) _).mono (by omega)
  · exact ((((((((((((((g2.setOther (Nat.lt_succ_self _) _).setOther (Nat.lt_succ_self _) _).setOther (Nat.lt_succ_self _) _).setOther (Nat.lt_succ_self _) _).setOther (Nat.lt_succ_self _) _).setOther (Nat.lt_succ_self _) _).setOther (Nat.lt_succ_self _) _).setOther (Nat.lt_succ_self _) _).setOther (Nat.lt_succ_self _) _).setOther (Nat.lt_succ_self _) _).setOther (Nat.lt_succ_self _) _).setOther (Nat.lt_succ_self _) _).setOther (Nat.lt_succ_self _) _).alloc (by rw [hsz]) _).mono (by omega)
  · exact ((((((((((((((((Below.refl _ w).alloc (Nat.le_refl _) _).trans (hb12.mono (by simp))).setCell (Nat.le_refl _) _).setCell (Nat.le_refl _) _).setCell (Nat.le_refl _) _).setCell (Nat.le_refl _) _).setCell (Nat.le_refl _) _).setCell (Nat.le_refl _) _).setCell (Nat.le_refl _) _).setCell (Nat.le_refl _) _).setCell (Nat.le_refl _) _).setCell (Nat.le_refl _) _).setCell (Nat.le_refl _) _).setCell (Nat.le_refl _) _).setCell (Nat.le_refl _) _).alloc (by rw [hsz]; omega) _

theorem expo_any (p : Option Addr) (x : Int) (w : World) :
    Calls Try.prog 11 #[.agg #[.pointer p, .int .i32 x]] w fun e w' => e = .returned (.int .i32 x) ∧ Below w.heap.size w w' := by
  go_enter Try.func11, Try.ntmps11
  go_wp2
  go_ret
  exact ⟨rfl, (Below.refl _ _).alloc (Nat.le_refl _) _⟩

theorem timeZero_any (w : World) :
    Calls Try.prog 14 #[.agg #[.int .u64 0, .int .i64 0, .pointer none]] w fun e w' => e = .returned (.bool true) ∧ Below w.heap.size w w' := by
  go_enter Try.func14, Try.ntmps14
  go_wp2
  go_ret
  exact ⟨rfl, (Below.refl _ _).alloc (Nat.le_refl _) _⟩

theorem dsign_nil (x : Int) (w : World) :
    Calls Try.prog 26 #[.agg #[.pointer none, .int .i32 x]] w fun e w' => e = .returned (.int .i64 0) ∧ Below w.heap.size w w' := by
  go_enter Try.func26, Try.ntmps26
  go_wp2
  go_ret
  exact ⟨rfl, (Below.refl _ _).alloc (Nat.le_refl _) _⟩

theorem dsign_any (p : Nat) (x n : Int) (w : World) (h : BigI w p n) :
    Calls Try.prog 26 #[.agg #[.pointer (some ⟨p, 0, none⟩), .int .i32 x]] w fun e w' => e = .returned (.int .i64 1) ∧ Below w.heap.size w w' := by
  have hB : ∀ o, Below w.heap.size w (w.alloc o) := fun o => (Below.refl _ w).alloc (Nat.le_refl _) _
  go_enter Try.func26, Try.ntmps26
  go_wp2_with fail
  refine (sign_any p n _ (h.below (hB _))).mono ?_
  rintro e w' ⟨rfl, rfl⟩
  go_wp2_with fail
  go_ret
  exact ⟨rfl, hB _⟩

theorem isZero_nil (x : Int) (w : World) :
    Calls Try.prog 12 #[.agg #[.pointer none, .int .i32 x]] w fun e w' => e = .returned (.bool true) ∧ Below w.heap.size w w' := by
  have hB : ∀ o, Below w.heap.size w (w.alloc o) := fun o => (Below.refl _ w).alloc (Nat.le_refl _) _
  go_enter Try.func12, Try.ntmps12
  go_wp2_with fail
  refine (dsign_nil x _).mono ?_
  rintro e w' ⟨rfl, hb⟩
  go_wp2_with fail
  go_ret
  exact ⟨rfl, (hB _).trans (hb.mono (by simp))⟩

theorem isZero_any (p : Nat) (x n : Int) (w : World) (h : BigI w p n) :
    Calls Try.prog 12 #[.agg #[.pointer (some ⟨p, 0, none⟩), .int .i32 x]] w fun e w' => e = .returned (.bool false) ∧ Below w.heap.size w w' := by
  have hB : ∀ o, Below w.heap.size w (w.alloc o) := fun o => (Below.refl _ w).alloc (Nat.le_refl _) _
  go_enter Try.func12, Try.ntmps12
  go_wp2_with fail
  refine (dsign_any p x n _ (h.below (hB _))).mono ?_
  rintro e w' ⟨rfl, hb⟩
  go_wp2_with fail
  go_ret
  exact ⟨rfl, (hB _).trans (hb.mono (by simp))⟩

theorem valueIs_down (w : World) :
    Calls Try.prog 15 #[.bool true, .int .i64 250, .int .i32 (-3), .int .i64 1, .int .i64 4] w fun e w' => e = .returned (.bool true) ∧ w' = w := by
  go_enter Try.func15, Try.ntmps15
  go_wp2_with fail
  refine (pow10_any _).mono ?_
  rintro e w' ⟨rfl, rfl⟩
  go_wp2_with fail
  go_ret
  exact ⟨rfl, rfl⟩

theorem valueIs_up (w : World) :
    Calls Try.prog 15 #[.bool true, .int .i64 1500, .int .i32 (-3), .int .i64 3, .int .i64 2] w fun e w' => e = .returned (.bool true) ∧ w' = w := by
  go_enter Try.func15, Try.ntmps15
  go_wp2_with fail
  refine (pow10_any _).mono ?_
  rintro e w' ⟨rfl, rfl⟩
  go_wp2_with fail
  go_ret
  exact ⟨rfl, rfl⟩

theorem cmpOne_down (w : World) :
    Calls Try.prog 10 #[.bool true, .int .i64 250, .int .i32 (-3)] w fun e w' => e = .returned (.tuple #[.int .i64 (-1), .bool true]) ∧ w' = w := by
  go_enter Try.func10, Try.ntmps10
  go_wp2_with fail
  refine (pow10_any _).mono ?_
  rintro e w' ⟨rfl, rfl⟩
  go_wp2_with fail
  go_ret2
  exact ⟨rfl, rfl⟩

theorem cmpOne_up (w : World) :
    Calls Try.prog 10 #[.bool true, .int .i64 1500, .int .i32 (-3)] w fun e w' => e = .returned (.tuple #[.int .i64 1, .bool true]) ∧ w' = w := by
  go_enter Try.func10, Try.ntmps10
  go_wp2_with fail
  refine (pow10_any _).mono ?_
  rintro e w' ⟨rfl, rfl⟩
  go_wp2_with fail
  go_ret2
  exact ⟨rfl, rfl⟩
end Go.Proofs.Qxb6627932a
