import Derived.Test.Qxb6627932aIs
namespace Go.Proofs.Qxb6627932a
open Go.RowKit

theorem TT.set {w : World} {base t : Nat} (h : TT w base t) {a : Addr} (ha : a.block < base) (v : Value) : TT (w.setCell a v) base t := by
  obtain ⟨p1, p2, h1, h2, h3, h4⟩ := h
  have hs : (w.setCell a v).heap.size = w.heap.size := by simp [World.setCell]
  exact ⟨p1, p2, h1, h2.setOther (by omega) v, by rw [hs]; exact h3.setOther ha v, by rw [hs]; exact h4.setOther ha v⟩

theorem TT.drew {w : World} {base t : Nat} (h : TT w base t) : TT w.drew base t := h

theorem TT.alloc {w : World} {base t : Nat} (h : TT w base t) (o : Obj) : TT (w.alloc o) base t := h.below ((Below.refl _ w).alloc (Nat.le_refl _) o)

/-- Block b is a row of type t, none of its cells frozen. -/
def IsBlk (w : World) (b : Nat) (t : TypeId) : Prop := ∃ cs, Blk w b cs t
theorem IsBlk.set {w : World} {b : Nat} {t : TypeId} (h : IsBlk w b t) (c i : Nat) (v : Value) : IsBlk (w.setCell ⟨c, i, none⟩ v) b t := by
  obtain ⟨cs, h⟩ := h
  by_cases e : b = c
  · subst e; exact ⟨_, h.set i v⟩
  · exact ⟨cs, h.setOther e v⟩
theorem IsBlk.drew {w : World} {b : Nat} {t : TypeId} (h : IsBlk w b t) : IsBlk w.drew b t := h
theorem IsBlk.below {w w' : World} {b B : Nat} {t : TypeId} (h : IsBlk w b t) (hb : Below B w w') (hB : b < B) : IsBlk w' b t := by
  obtain ⟨cs, h⟩ := h
  exact ⟨cs, h.below hb hB⟩
theorem TT.isBlk {w : World} {base t : Nat} (h : TT w base t) : IsBlk w t 46 := by
  obtain ⟨p1, p2, _, h2, _, _⟩ := h
  exact ⟨_, h2⟩
theorem TT.lt {w : World} {base t : Nat} (h : TT w base t) : t < w.heap.size := by
  obtain ⟨p1, p2, _, h2, _, _⟩ := h
  exact h2.lt
theorem TT.le {w : World} {base t : Nat} (h : TT w base t) : base ≤ t := by
  obtain ⟨p1, p2, h1, _, _, _⟩ := h
  exact h1

theorem info46 : ∃ i, Try.prog.info? 46 = some i ∧ i.size ≠ 0 := by
  have h : (Try.prog.info? 46).map (fun i => i.size) = some 14 := by kernel_rfl
  obtain ⟨i, hi, hs⟩ := Option.map_eq_some_iff.1 h
  exact ⟨i, hi, by rw [hs]; decide⟩

theorem eqlT {w : World} {a b : Nat} (ha : IsBlk w a 46) (hb : IsBlk w b 46) (hne : a ≠ b) :
    (binOp .eql 23 (.pointer (some ⟨a, 0, none⟩)) (.pointer (some ⟨b, 0, none⟩))).run Try.prog w = .ok (.bool false) w := by
  obtain ⟨ca, ha⟩ := ha
  obtain ⟨cb, hb⟩ := hb
  obtain ⟨i, hi, hs⟩ := info46
  exact run_eql_ptr_other w Try.underlying23 hi hs (by intro e; injection e; omega) ha hb

theorem neqT {w : World} {a b : Nat} (ha : IsBlk w a 46) (hb : IsBlk w b 46) (hne : a ≠ b) :
    (binOp .neq 23 (.pointer (some ⟨a, 0, none⟩)) (.pointer (some ⟨b, 0, none⟩))).run Try.prog w = .ok (.bool true) w := by
  obtain ⟨ca, ha⟩ := ha
  obtain ⟨cb, hb⟩ := hb
  obtain ⟨i, hi, hs⟩ := info46
  exact run_neq_ptr_other w Try.underlying23 hi hs (by intro e; injection e; omega) ha hb

theorem mods_end (w w4 : World) (A D ta tb : Nat) (v1 v2 v3 v4 v5 v6 v7 : Value) (hta : ta < A) (hw : w.heap.size ≤ ta) (hAD : A < D) (htb : TT w4 (A + 1) tb) (hIa : IsBlk w4 ta 46)
    (hA : Blk w4 A (tarr ta) 33) (hD : Blk w4 D (tarr tb) 33) (hb : Below w.heap.size w w4) (W : World)
    (hW : W = (((((((w4.setCell ⟨A, 1, none⟩ v1).setCell ⟨A, 0, none⟩ v2).setCell ⟨ta, 4, none⟩ v3).setCell ⟨ta, 10, none⟩ v4).setCell ⟨ta, 11, none⟩ v5).setCell ⟨ta, 7, none⟩ v6).setCell ⟨ta, 5, none⟩ v7).drew) :
    W.heap.size = w4.heap.size ∧ TT W (A + 1) tb ∧ IsBlk W ta 46 ∧ (∃ cs, Blk W A cs 33 ∧ cs[2]? = some (.pointer (some ⟨ta, 0, none⟩))) ∧ Blk W D (tarr tb) 33 ∧ Below w.heap.size w W := by
  subst hW
  have e1 : A < A + 1 := by omega
  have e2 : ta < A + 1 := by omega
  have n1 : A ≠ ta := by omega
  have n2 : D ≠ A := by omega
  have n3 : D ≠ ta := by omega
  have hwA : w.heap.size ≤ A := by omega
  refine ⟨by simp [World.setCell, World.drew], ?_, ?_, ?_, ?_, ?_⟩
  · exact TT.drew (TT.set (TT.set (TT.set (TT.set (TT.set (TT.set (TT.set htb e1 _) e1 _) e2 _) e2 _) e2 _) e2 _) e2 _)
  · exact IsBlk.drew (((((((hIa.set _ _ _).set _ _ _).set _ _ _).set _ _ _).set _ _ _).set _ _ _).set _ _ _)
  · exact ⟨_, Blk.drew (((((((hA.set 1 _).set 0 _).setOther n1 _).setOther n1 _).setOther n1 _).setOther n1 _).setOther n1 _), rfl⟩
  · exact Blk.drew (((((((hD.setOther n2 _).setOther n2 _).setOther n3 _).setOther n3 _).setOther n3 _).setOther n3 _).setOther n3 _)
  · exact Below.drew (((((((hb.setCell hwA _).setCell hwA _).setCell hw _).setCell hw _).setCell hw _).setCell hw _).setCell hw _)

set_option maxRecDepth 100000 in
set_option maxHeartbeats 2000000 in
theorem fresh_walk (w : World) :
    Calls Try.prog 3 #[] w fun e w' => e = .returned (.bool true) ∧ Below w.heap.size w w' := by
  go_enter Try.func3, Try.ntmps3
  go_wp2_with fail
  refine (default_any _).mono ?_
  rintro e w1 ⟨ta, rfl, hta, hb1⟩
  have lta := hta.lt
  have hB1 : Below w1.heap.size w1 (w1.alloc (.cells (tarr ta) 33)) := (Below.refl _ w1).alloc (Nat.le_refl _) _
  have hA1 : Blk (w1.alloc (.cells (tarr ta) 33)) w1.heap.size (tarr ta) 33 := Blk.new _ _ _
  have sz1 : (w1.alloc (.cells (tarr ta) 33)).heap.size = w1.heap.size + 1 := by simp
  unfold terms
  go_wp2_with fail
  refine (default_any _).mono ?_
  rintro e w2 ⟨tb, rfl, htb0, hb20⟩
  have htb : TT w2 (w1.heap.size + 1) tb := by rw [← sz1]; exact htb0
  have hb2 : Below (w1.heap.size + 1) (w1.alloc (.cells (tarr ta) 33)) w2 := by rw [← sz1]; exact hb20
  clear htb0 hb20
  have hA2 := hA1.below hb2 (by omega)
  have hta2 : TT w2 w.heap.size ta := (hta.below hB1).below (by rw [sz1]; exact hb2)
  have hb02 : Below w.heap.size w w2 := hb1.trans ((hB1.trans (hb2.mono (by omega))).mono hb1.size)
  have ltb := htb.lt
  have ltb2 := htb.le
  have l12 : w1.heap.size < w2.heap.size := hA2.lt
  have hB2 : Below w2.heap.size w2 (w2.alloc (.cells (tarr tb) 33)) := (Below.refl _ w2).alloc (Nat.le_refl _) _
  have hD2 : Blk (w2.alloc (.cells (tarr tb) 33)) w2.heap.size (tarr tb) 33 := Blk.new _ _ _
  have sz2 : (w2.alloc (.cells (tarr tb) 33)).heap.size = w2.heap.size + 1 := by simp
  obtain ⟨b0, b1, b2, b3, b4, b5, b6, b7, b8, b9, b10, b11, b12⟩ := tarr_all hA2
  clear hA1 hB1 hta hb1 hb2
  unfold terms
  go_wp2_with fail
  refine (isDefault_any w.heap.size ta _ (hta2.below hB2)).mono ?_
  rintro e w3 ⟨rfl, hb30⟩
  have hb3 : Below (w2.heap.size + 1) (w2.alloc (.cells (tarr tb) 33)) w3 := by rw [← sz2]; exact hb30
  clear hb30 b0 b1 b2 b3 b4 b5 b6 b7 b8 b9 b10 b11 b12
  have hb23 : Below w2.heap.size w2 w3 := hB2.trans (hb3.mono (by omega))
  have hD3 := hD2.below hb3 (by omega)
  have hA3 := hA2.below hb23 l12
  have hta3 := hta2.below hb23
  have htb3 := htb.below hb23
  have hb03 := hb02.trans (hb23.mono hb02.size)
  clear hb3 hB2 hD2 hA2 hta2 htb hb02 hb23
  obtain ⟨d0, d1, d2, d3, d4, d5, d6, d7, d8, d9, d10, d11, d12⟩ := tarr_all hD3
  go_wp2_with fail
  refine (isDefault_any _ tb _ htb3).mono ?_
  rintro e w4 ⟨rfl, hb4⟩
  clear d0 d1 d2 d3 d4 d5 d6 d7 d8 d9 d10 d11 d12
  have l23 : w2.heap.size < w3.heap.size := hD3.lt
  have hD4 := hD3.below hb4 l23
  have hA4 := hA3.below hb4 (by omega)
  have hta4 := hta3.below hb4
  have htb4 := htb3.below hb4
  have hb04 := hb03.trans (hb4.mono hb03.size)
  have l34 := hb4.size
  clear hD3 hA3 hta3 htb3 hb4 hb03
  obtain ⟨b0, b1, b2, b3, b4, b5, b6, b7, b8, b9, b10, b11, b12⟩ := tarr_all hA4
  obtain ⟨d0, d1, d2, d3, d4, d5, d6, d7, d8, d9, d10, d11, d12⟩ := tarr_all hD4
  have hq := eqlT hta4.isBlk htb4.isBlk (by omega)
  have hIa := hta4.isBlk
  obtain ⟨p1, p2, hbt, hka, hp1, hp2⟩ := hta4
  obtain ⟨a0, a1, a2, a3, a4, a5, a6, a7, a8, a9, a10, a11, a12, a13⟩ := tcells_all hka
  have f0 := hA4.frozen 0
  have f1 := hA4.frozen 1
  have g4 := hka.frozen 4
  have g5 := hka.frozen 5
  have g7 := hka.frozen 7
  have g10 := hka.frozen 10
  have g11 := hka.frozen 11
  go_upto_region 10 with fail
  go_region
  go_wp2_with fail
  refine (isDefault_any (w1.heap.size + 1) tb _ (by exact (mods_end w w4 w1.heap.size w2.heap.size ta tb _ _ _ _ _ _ _ lta hbt l12 htb4 hIa hA4 hD4 hb04 _ rfl).2.1)).mono ?_
  rintro e w5 ⟨rfl, hb5⟩
  obtain ⟨s5, t5, i5, ⟨cs, k5, k52⟩, dd5, w05⟩ := mods_end w w4 w1.heap.size w2.heap.size ta tb _ _ _ _ _ _ _ lta hbt l12 htb4 hIa hA4 hD4 hb04 _ rfl
  rw [s5] at hb5
  have htb5 := t5.below (by rw [s5]; exact hb5)
  have hIa5 := i5.below hb5 (by omega)
  have hA5 := k5.below hb5 (by omega)
  have hD5 := dd5.below hb5 (by omega)
  have hb05 := w05.trans (hb5.mono (by have := hb04.size; omega))
  have l35 : w4.heap.size ≤ w5.heap.size := by have h := hb5.size; rw [s5] at h; exact h
  clear a0 a1 a2 a3 a4 a5 a6 a7 a8 a9 a10 a11 a12 a13 b0 b1 b2 b3 b4 b5 b6 b7 b8 b9 b10 b11 b12 d0 d1 d2 d3 d4 d5 d6 d7 d8 d9 d10 d11 d12 f0 f1 g4 g5 g7 g10 g11 hq hIa hka hp1 hp2 hA4 hD4 htb4 hb04 s5 t5 i5 k5 dd5 w05 hb5
  go_wp2_with fail
  refine (default_any _).mono ?_
  rintro e w6 ⟨tc, rfl, htc, hb6⟩
  have hIa6 := hIa5.below hb6 (by omega)
  have hIb6 := htb5.isBlk.below hb6 htb5.lt
  have hA6 := hA5.below hb6 (by omega)
  have hD6 := hD5.below hb6 (by omega)
  have hb06 := hb05.trans (hb6.mono hb05.size)
  have l56 := hb6.size
  have ltc := htc.lt
  have ltc2 := htc.le
  have l5b := htb5.lt
  have hB6 : Below w6.heap.size w6 (w6.alloc (.cells (tarr tc) 33)) := (Below.refl _ w6).alloc (Nat.le_refl _) _
  have hC6 : Blk (w6.alloc (.cells (tarr tc) 33)) w6.heap.size (tarr tc) 33 := Blk.new _ _ _
  have sz6 : (w6.alloc (.cells (tarr tc) 33)).heap.size = w6.heap.size + 1 := by simp
  clear hIa5 hA5 hD5 hb05 htb5 hb6
  unfold terms
  go_wp2_with fail
  refine (isDefault_any _ tc _ (htc.below hB6)).mono ?_
  rintro e w7 ⟨rfl, hb70⟩
  have hb7 : Below (w6.heap.size + 1) (w6.alloc (.cells (tarr tc) 33)) w7 := by rw [← sz6]; exact hb70
  have hb67 : Below w6.heap.size w6 w7 := hB6.trans (hb7.mono (by omega))
  have hC7 := hC6.below hb7 (by omega)
  have hIa7 := hIa6.below hb67 (by omega)
  have hIb7 := hIb6.below hb67 (by omega)
  have hIc7 := htc.isBlk.below hb67 ltc
  have hA7 := hA6.below hb67 (by omega)
  have hD7 := hD6.below hb67 (by omega)
  have hb07 := hb06.trans (hb67.mono hb06.size)
  have qa := neqT hIc7 hIa7 (by omega)
  have qb := neqT hIc7 hIb7 (by omega)
  have ca := (hA7.cell 2).trans k52
  have cb : w7.cell? ⟨w2.heap.size, 2, none⟩ = some (.pointer (some ⟨tb, 0, none⟩)) := hD7.cell 2
  have cc : w7.cell? ⟨w6.heap.size, 2, none⟩ = some (.pointer (some ⟨tc, 0, none⟩)) := hC7.cell 2
  clear hb70 hb7 hC6 hIa6 hIb6 hA6 hD6 hb06 hB6 k52
  go_wp2_with fail
  go_ret
  exact ⟨rfl, hb07⟩
end Go.Proofs.Qxb6627932a
