import Derived.Test.Qxb6627932aIs
namespace Go.Proofs.Qxb6627932a
open Go.RowKit

set_option maxRecDepth 100000 in
set_option maxHeartbeats 2000000 in
theorem domain_walk (w : World) :
    Calls Try.prog 4 #[] w fun e w' => e = .returned (.bool true) ∧ Below w.heap.size w w' := by
  go_enter Try.func4, Try.ntmps4
  go_wp2_with fail
  refine (default_any _).mono ?_
  rintro e w1 ⟨t, rfl, ⟨p1, p2, hbt, hk, hp1, hp2⟩, hb1⟩
  have hlt := hk.lt
  have hB0 : Below w1.heap.size w1 (w1.alloc (.cells (tarr t) 33)) := (Below.refl _ w1).alloc (Nat.le_refl _) _
  have hk1 := hk.below hB0 hlt
  obtain ⟨a0, a1, a2, a3, a4, a5, a6, a7, a8, a9, a10, a11, a12, a13⟩ := tcells_all hk
  unfold terms
  go_wp2_with fail
  refine (coef_any p1 (-3) 250 _ (hp1.big.below hB0)).mono ?_
  rintro e w2 ⟨z1, rfl, hz1, hb2⟩
  have hb2' : Below w1.heap.size w1 w2 := hB0.trans (hb2.mono hB0.size)
  clear a0 a1 a2 a3 a4 a5 a6 a7 a8 a9 a10 a11 a12 a13 hk1 hB0 hb2
  have hk2 := hk.below hb2' hlt
  obtain ⟨a0, a1, a2, a3, a4, a5, a6, a7, a8, a9, a10, a11, a12, a13⟩ := tcells_all hk2
  go_wp2_with fail
  refine (isInt64_any z1 250 _ hz1 (by omega) (by omega)).mono ?_
  rintro e w' ⟨rfl, rfl⟩
  go_wp2_with fail
  refine (int64_any z1 250 _ hz1 (by omega) (by omega)).mono ?_
  rintro e w' ⟨rfl, rfl⟩
  go_wp2_with fail
  refine (expo_any _ _ _).mono ?_
  rintro e w3 ⟨rfl, hb3⟩
  go_wp2_with fail
  refine (cmpOne_down _).mono ?_
  rintro e w' ⟨rfl, rfl⟩
  have hb3' := hb2'.trans (hb3.mono hb2'.size)
  clear a0 a1 a2 a3 a4 a5 a6 a7 a8 a9 a10 a11 a12 a13 hk2 hb3 hb2' hz1
  have hk3 := hk.below hb3' hlt
  obtain ⟨a0, a1, a2, a3, a4, a5, a6, a7, a8, a9, a10, a11, a12, a13⟩ := tcells_all hk3
  go_wp2_with fail
  refine (isZero_any p2 (-3) 1500 _ (hp2.big.below hb3')).mono ?_
  rintro e w4 ⟨rfl, hb4⟩
  have hb4' := hb3'.trans (hb4.mono hb3'.size)
  clear a0 a1 a2 a3 a4 a5 a6 a7 a8 a9 a10 a11 a12 a13 hk3 hb4 hb3'
  have hk4 := hk.below hb4' hlt
  obtain ⟨a0, a1, a2, a3, a4, a5, a6, a7, a8, a9, a10, a11, a12, a13⟩ := tcells_all hk4
  go_wp2_with fail
  refine (coef_any p2 (-3) 1500 _ (hp2.big.below hb4')).mono ?_
  rintro e w5 ⟨z2, rfl, hz2, hb5⟩
  have hb5' := hb4'.trans (hb5.mono hb4'.size)
  clear a0 a1 a2 a3 a4 a5 a6 a7 a8 a9 a10 a11 a12 a13 hk4 hb5 hb4'
  have hk5 := hk.below hb5' hlt
  obtain ⟨a0, a1, a2, a3, a4, a5, a6, a7, a8, a9, a10, a11, a12, a13⟩ := tcells_all hk5
  go_upto_region 27 with fail
  go_cut [9, 10] (fun v v' wx => v = .int .i64 1 ∧ v' = .bool true ∧ Below w5.heap.size w5 wx)
  case first =>
    go_region_with (first | (go_at_call 8; refine (isInt64_any z2 1500 _ ?_ (by omega) (by omega)).mono ?_; exact hz2; rintro e w' ⟨rfl, rfl⟩) | (go_at_call 9; refine (int64_any z2 1500 _ ?_ (by omega) (by omega)).mono ?_; exact hz2; rintro e w' ⟨rfl, rfl⟩) | (go_at_call 11; refine (expo_any _ _ _).mono ?_; rintro e w' ⟨rfl, hb4⟩) | (go_at_call 10; refine (cmpOne_up _).mono ?_; rintro e w' ⟨rfl, rfl⟩))
    all_goals
      go_wp2_with fail
      go_meet
      case rel => exact ⟨rfl, rfl, below_src (by assumption)⟩
  case rest =>
    obtain ⟨rfl, rfl, hbx⟩ := hcut
    clear a0 a1 a2 a3 a4 a5 a6 a7 a8 a9 a10 a11 a12 a13
    go_wp2_with fail
    go_ret
    exact ⟨rfl, hb1.trans ((hb5'.trans (hbx.mono hb5'.size)).mono hb1.size)⟩
end Go.Proofs.Qxb6627932a
