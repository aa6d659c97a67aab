import Derived.Test.Qxb6627932aDec
import Derived.Deep.DeepCutAuto
import Derived.Deep.RegionWith
namespace Go.Proofs.Qxb6627932a
open Go.RowKit

theorem neqMap28 (w : World) : (binOp .neq 28 (.map none) (.map none)).run Try.prog w = .ok (.bool false) w := run_neq_map_nil w _ _ _ none Try.underlying28
theorem neqMap29 (w : World) : (binOp .neq 29 (.map none) (.map none)).run Try.prog w = .ok (.bool false) w := run_neq_map_nil w _ _ _ none Try.underlying29
theorem neqMap30 (w : World) : (binOp .neq 30 (.map none) (.map none)).run Try.prog w = .ok (.bool false) w := run_neq_map_nil w _ _ _ none Try.underlying30
theorem neqMap31 (w : World) : (binOp .neq 31 (.map none) (.map none)).run Try.prog w = .ok (.bool false) w := run_neq_map_nil w _ _ _ none Try.underlying31
theorem neqSl41 (w : World) : (binOp .neq 41 (.slice none 0 0) (.slice none 0 0)).run Try.prog w = .ok (.bool false) w := run_neq_slice_nil_any w _ _ none 0 0 0 0 Try.underlying41
theorem neqPer (w : World) : (binOp .neq 44 (.agg #[.bool false, .int .i64 0, .int .i64 0, .int .i64 0, .int .i64 0]) (.agg #[.bool false, .int .i64 0, .int .i64 0, .int .i64 0, .int .i64 0])).run Try.prog w = .ok (.bool false) w := by kernel_rfl

/-- The cells of the default Terms. -/
def tarr (t : Nat) : Array Value := #[.int .i64 0, .int .i32 3, .pointer (some ⟨t, 0, none⟩), .pointer none, .int .i32 0, .int .i64 0, .pointer none, .map none, .map none, .map none, .map none, .map none, .map none]

theorem tcells_all {w : World} {t p1 p2 : Nat} (h : Blk w t (tcells p1 p2) 46) :
    w.cell? ⟨t, 0, none⟩ = some (.int .u64 0) ∧ w.cell? ⟨t, 1, none⟩ = some (.int .i64 0) ∧ w.cell? ⟨t, 2, none⟩ = some (.pointer none) ∧ w.cell? ⟨t, 3, none⟩ = some (.slice none 0 0) ∧ w.cell? ⟨t, 4, none⟩ = some (.int .i64 0) ∧ w.cell? ⟨t, 5, none⟩ = some (.bool false) ∧ w.cell? ⟨t, 6, none⟩ = some (.int .i64 0) ∧ w.cell? ⟨t, 7, none⟩ = some (.int .i64 0) ∧ w.cell? ⟨t, 8, none⟩ = some (.int .i64 0) ∧ w.cell? ⟨t, 9, none⟩ = some (.int .i64 0) ∧ w.cell? ⟨t, 10, none⟩ = some (.pointer (some ⟨p1, 0, none⟩)) ∧ w.cell? ⟨t, 11, none⟩ = some (.int .i32 (-3)) ∧ w.cell? ⟨t, 12, none⟩ = some (.pointer (some ⟨p2, 0, none⟩)) ∧ w.cell? ⟨t, 13, none⟩ = some (.int .i32 (-3)) :=
  ⟨h.cell 0, h.cell 1, h.cell 2, h.cell 3, h.cell 4, h.cell 5, h.cell 6, h.cell 7, h.cell 8, h.cell 9, h.cell 10, h.cell 11, h.cell 12, h.cell 13⟩
theorem tarr_all {w : World} {b t : Nat} (h : Blk w b (tarr t) 33) :
    w.cell? ⟨b, 0, none⟩ = some (.int .i64 0) ∧ w.cell? ⟨b, 1, none⟩ = some (.int .i32 3) ∧ w.cell? ⟨b, 2, none⟩ = some (.pointer (some ⟨t, 0, none⟩)) ∧ w.cell? ⟨b, 3, none⟩ = some (.pointer none) ∧ w.cell? ⟨b, 4, none⟩ = some (.int .i32 0) ∧ w.cell? ⟨b, 5, none⟩ = some (.int .i64 0) ∧ w.cell? ⟨b, 6, none⟩ = some (.pointer none) ∧ w.cell? ⟨b, 7, none⟩ = some (.map none) ∧ w.cell? ⟨b, 8, none⟩ = some (.map none) ∧ w.cell? ⟨b, 9, none⟩ = some (.map none) ∧ w.cell? ⟨b, 10, none⟩ = some (.map none) ∧ w.cell? ⟨b, 11, none⟩ = some (.map none) ∧ w.cell? ⟨b, 12, none⟩ = some (.map none) :=
  ⟨h.cell 0, h.cell 1, h.cell 2, h.cell 3, h.cell 4, h.cell 5, h.cell 6, h.cell 7, h.cell 8, h.cell 9, h.cell 10, h.cell 11, h.cell 12⟩

theorem below_src {B : Nat} {w w' : World} (h : Below B w.drew w') : Below B w w' := ⟨h.os, h.tape, h.output, h.size, h.block⟩

set_option maxRecDepth 100000 in
set_option maxHeartbeats 2000000 in
theorem isDefault_any (base t : Nat) (w : World) (h : TT w base t) :
    Calls Try.prog 6 #[terms t] w fun e w' => e = .returned (.bool true) ∧ Below w.heap.size w w' := by
  obtain ⟨p1, p2, hbt, hk, hp1, hp2⟩ := h
  have m28 := neqMap28
  have m29 := neqMap29
  have m30 := neqMap30
  have m31 := neqMap31
  have m41 := neqSl41
  have m44 := neqPer
  have hlt := hk.lt
  have hB0 : Below w.heap.size w (w.alloc (.cells (tarr t) 33)) := (Below.refl _ w).alloc (Nat.le_refl _) _
  unfold terms
  go_enter Try.func6, Try.ntmps6
  go_wp2_with fail
  refine (isZero_nil 0 _).mono ?_
  rintro e w1 ⟨rfl, hb1⟩
  have hb1' : Below w.heap.size w w1 := hB0.trans (hb1.mono (by simp))
  have hk1 := hk.below hb1' hlt
  obtain ⟨a0, a1, a2, a3, a4, a5, a6, a7, a8, a9, a10, a11, a12, a13⟩ := tcells_all hk1
  have hq1 : Blk w1 w.heap.size (tarr t) 33 := (Blk.new w _ _).below hb1 (by simp)
  obtain ⟨b0, b1, b2, b3, b4, b5, b6, b7, b8, b9, b10, b11, b12⟩ := tarr_all hq1
  clear hb1
  go_wp2_with fail
  refine (timeZero_any _).mono ?_
  rintro e w2 ⟨rfl, hb2⟩
  have hb2' : Below w.heap.size w w2 := hb1'.trans (hb2.mono hb1'.size)
  clear a0 a1 a2 a3 a4 a5 a6 a7 a8 a9 a10 a11 a12 a13 b0 b1 b2 b3 b4 b5 b6 b7 b8 b9 b10 b11 b12 hq1 hk1
  have hk2 := hk.below hb2' hlt
  obtain ⟨a0, a1, a2, a3, a4, a5, a6, a7, a8, a9, a10, a11, a12, a13⟩ := tcells_all hk2
  clear hb1' hb2
  go_wp2_with fail
  refine (coef_any p1 (-3) 250 _ (hp1.big.below hb2')).mono ?_
  rintro e w3 ⟨z1, rfl, hz1, hb3⟩
  have hb3' : Below w.heap.size w w3 := hb2'.trans (hb3.mono hb2'.size)
  clear a0 a1 a2 a3 a4 a5 a6 a7 a8 a9 a10 a11 a12 a13 hk2 hb2' hb3
  have hk3 := hk.below hb3' hlt
  obtain ⟨a0, a1, a2, a3, a4, a5, a6, a7, a8, a9, a10, a11, a12, a13⟩ := tcells_all hk3
  go_upto_region 17 with fail
  go_cut [99] (fun v wx => v = .bool false ∧ Below w3.heap.size w3 wx)
  case first =>
    go_region_with (first | (go_at_call 8; refine (isInt64_any z1 250 _ ?_ (by omega) (by omega)).mono ?_; exact hz1; rintro e w' ⟨rfl, rfl⟩) | (go_at_call 9; refine (int64_any z1 250 _ ?_ (by omega) (by omega)).mono ?_; exact hz1; rintro e w' ⟨rfl, rfl⟩) | (go_at_call 11; refine (expo_any _ _ _).mono ?_; rintro e w' ⟨rfl, hb4⟩) | (go_at_call 15; refine (valueIs_down _).mono ?_; rintro e w' ⟨rfl, rfl⟩))
    all_goals
      go_wp2_with fail
      go_meet
      case rel => exact ⟨rfl, below_src (by assumption)⟩
  case rest =>
    obtain ⟨rfl, hbx⟩ := hcut
    have hb4' : Below w.heap.size w wc := hb3'.trans (hbx.mono hb3'.size)
    clear a0 a1 a2 a3 a4 a5 a6 a7 a8 a9 a10 a11 a12 a13 hk3 hb3' hbx hz1
    have hk4 := hk.below hb4' hlt
    obtain ⟨a0, a1, a2, a3, a4, a5, a6, a7, a8, a9, a10, a11, a12, a13⟩ := tcells_all hk4
    go_wp2_with fail
    refine (coef_any p2 (-3) 1500 _ (hp2.big.below hb4')).mono ?_
    rintro e w5 ⟨z2, rfl, hz2, hb5⟩
    have hb5' : Below w.heap.size w w5 := hb4'.trans (hb5.mono hb4'.size)
    clear a0 a1 a2 a3 a4 a5 a6 a7 a8 a9 a10 a11 a12 a13 hk4 hb4' hb5
    have hk5 := hk.below hb5' hlt
    obtain ⟨a0, a1, a2, a3, a4, a5, a6, a7, a8, a9, a10, a11, a12, a13⟩ := tcells_all hk5
    go_upto_region 20 with fail
    go_cut [115] (fun v wx => v = .bool false ∧ Below w5.heap.size w5 wx)
    case first =>
      go_region_with (first | (go_at_call 8; refine (isInt64_any z2 1500 _ ?_ (by omega) (by omega)).mono ?_; exact hz2; rintro e w' ⟨rfl, rfl⟩) | (go_at_call 9; refine (int64_any z2 1500 _ ?_ (by omega) (by omega)).mono ?_; exact hz2; rintro e w' ⟨rfl, rfl⟩) | (go_at_call 11; refine (expo_any _ _ _).mono ?_; rintro e w' ⟨rfl, hb4⟩) | (go_at_call 15; refine (valueIs_up _).mono ?_; rintro e w' ⟨rfl, rfl⟩))
      all_goals
        go_wp2_with fail
        go_meet
        case rel => exact ⟨rfl, below_src (by assumption)⟩
    case rest =>
      obtain ⟨rfl, hbx⟩ := hcut
      clear a0 a1 a2 a3 a4 a5 a6 a7 a8 a9 a10 a11 a12 a13
      go_wp2_with fail
      go_ret
      exact ⟨rfl, hb5'.trans (hbx.mono hb5'.size)⟩
end Go.Proofs.Qxb6627932a
