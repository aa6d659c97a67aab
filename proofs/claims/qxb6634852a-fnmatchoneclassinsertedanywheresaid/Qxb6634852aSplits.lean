import Derived.Test.Qxb6634852aBuild
namespace Go.Proofs.Qxb6634852a
open Go.RowKit

theorem Strs.below {w w' : World} {ao : Option Addr} {len cap : Nat} {f : Nat → ByteArray} (h : Strs w ao len cap f) (hb : Below w.heap.size w w') : Strs w' ao len cap f := by
  obtain ⟨h1, h2, h3, h4, h5⟩ := h
  refine ⟨h1, h2, h3, h4, fun hl => ?_⟩
  obtain ⟨b, off, e, hlt, hc⟩ := h5 hl
  exact ⟨b, off, e, Nat.lt_of_lt_of_le hlt hb.size, fun i hi => (hb.cell (by exact hlt)).trans (hc i hi)⟩

theorem Strs.head {w : World} {ao : Option Addr} {len cap n : Nat} {f : Nat → ByteArray} (h : Strs w ao len cap f) (hn : n ≤ len) : Strs w ao n cap f := by
  obtain ⟨h1, h2, h3, h4, h5⟩ := h
  refine ⟨by omega, h2, h3, fun e => by have := h4 e; omega, fun hl => ?_⟩
  obtain ⟨b, off, e, hlt, hc⟩ := h5 (by omega)
  exact ⟨b, off, e, hlt, fun i hi => hc i (by omega)⟩

theorem Strs.tail {w : World} {ao : Option Addr} {len cap n : Nat} {f : Nat → ByteArray} (h : Strs w ao len cap f) (hn : n ≤ len) : Strs w (Option.map (fun x => x.add n) ao) (len - n) (cap - n) (fun i => f (n + i)) := by
  obtain ⟨h1, h2, h3, h4, h5⟩ := h
  refine ⟨by omega, by omega, fun i => h3 _, fun e => ?_, fun hl => ?_⟩
  · have := h4 (by simpa using e); omega
  · obtain ⟨b, off, rfl, hlt, hc⟩ := h5 (by omega)
    exact ⟨b, off + n, by simp [Addr.add_lit], hlt, fun i hi => by rw [Nat.add_assoc]; exact hc (n + i) (by omega)⟩

theorem Strs.tail0 {w : World} {ao : Option Addr} {len cap n : Nat} {f : Nat → ByteArray} (h : Strs w ao len cap f) (hcn : cap = n) : Strs w ao (len - n) 0 (fun i => f (n + i)) := by
  obtain ⟨h1, h2, h3, h4, h5⟩ := h
  exact ⟨by omega, by unfold maxLen; omega, fun i => h3 _, fun e => by omega, fun hl => by omega⟩

set_option maxHeartbeats 1000000 in
theorem splits_walk (ao : Option Addr) (len cap : Nat) (f : Nat → ByteArray) (k : Int) (w : World) (hs : Strs w ao len cap f) :
    Calls Try.prog 3 #[.slice ao len cap, .int .i64 k] w fun e w' => e = .returned (.bool true) ∧ Below w.heap.size w w' := by
  have hb5 := bytes_any ao len cap f k w hs
  have hb6 := toobig_any ao len cap f 0 w hs
  have hlm : len ≤ 9223372036854775807 := by have h1 := hs.1; have h2 := hs.2.1; unfold maxLen at h2; omega
  have hcm : cap ≤ 9223372036854775807 := by have h2 := hs.2.1; unfold maxLen at h2; omega
  have hlc := hs.1
  go_enter Try.func3, Try.ntmps3
  go_wp2_with fail
  refine hb5.mono ?_
  rintro e w1 ⟨rfl | rfl, rfl⟩
  rotate_left
  · go_wp2_with fail
    go_ret
    exact ⟨rfl, Below.refl _ _⟩
  go_wp2_with fail
  refine hb6.mono ?_
  rintro e w2 ⟨rfl | ⟨rfl, hsm⟩, rfl⟩
  · go_wp2_with fail
    go_ret
    exact ⟨rfl, Below.refl _ _⟩
  clear hb5 hb6
  by_cases hk : 0 ≤ k ∧ k ≤ len
  · obtain ⟨hk0, hk1⟩ := hk
    obtain ⟨n, rfl⟩ : ∃ n : Nat, k = n := ⟨k.toNat, by omega⟩
    go_wp2_with fail
    refine (build_any ao len cap f w2 (by unfold Small at hsm; omega) hs).mono ?_
    rintro e w3 ⟨p3, v3, rfl, hc3, hv3, hb3⟩
    go_wp2_with fail
    refine (match_any p3 v3 len f w3 (by unfold Small at hsm; omega) hc3 hv3).mono ?_
    rintro e w4 ⟨rfl, hb4⟩
    have hb24 := hb3.trans (hb4.mono hb3.size)
    clear hb3 hb4 hc3 hv3
    have hs4 := hs.below hb24
    go_wp2_with fail
    refine (build_any ao n cap f w4 (by unfold Small at hsm; omega) (hs4.head (by omega))).mono ?_
    rintro e w5 ⟨p5, v5, rfl, hc5, hv5, hb5⟩
    go_wp2_with fail
    refine (match_any p5 v5 n f w5 (by unfold Small at hsm; omega) hc5 hv5).mono ?_
    rintro e w6 ⟨rfl, hb6⟩
    have hb26 := hb24.trans ((hb5.trans (hb6.mono hb5.size)).mono hb24.size)
    clear hb5 hb6 hc5 hv5 hs4 hb24
    have hs6 := hs.below hb26
    have hnl : n ≤ len := by omega
    go_wp2_with fail
    all_goals
      refine (build_any _ (len - n) _ (fun i => f (n + i)) w6 (by unfold Small at hsm; omega) (by first | exact hs6.tail0 ‹_› | exact hs6.tail hnl)).mono ?_
      rintro e w7 ⟨p7, v7, rfl, hc7, hv7, hb7⟩
      go_wp2_with fail
      refine (match_any p7 v7 (len - n) (fun i => f (n + i)) w7 (by unfold Small at hsm; omega) hc7 hv7).mono ?_
      rintro e w8 ⟨rfl, hb8⟩
      have hb28 := hb26.trans ((hb7.trans (hb8.mono hb7.size)).mono hb26.size)
      clear hb7 hb8 hc7 hv7 hs6 hb26
      have hs8 := hs.below hb28
      go_wp2_with fail
    all_goals
      obtain ⟨h81, h82, h83, h84, hc⟩ := hs8
      clear h81 h82 h83 h84 hs
      go_loop [8, 9] (fun t i => ∃ j : Nat, j ≤ len ∧ i = .int .i64 j ∧ t = .int .i64 (badM f j : Nat)) (fun _ i => len - (intOf i).toNat)
      case atStart => exact ⟨0, Nat.zero_le _, rfl, rfl⟩
      case round =>
        obtain ⟨j, hj, rfl, rfl⟩ := hrel
        have hbj := badM_le f j
        by_cases hlt : j < len
        · obtain ⟨b, off, rfl, hb, hcell⟩ := hc (by omega)
          have hck := hcell j hlt
          clear hcell hc
          go_wp2
          · have hd : (!(f j).toList == [109, 97, 116, 99, 104]) = true := by assumption
            go_round
            case rel => exact ⟨j + 1, by omega, by go_num, by rw [badM_succ_bad hd]; go_num⟩
            case measure => simp [intOf]; omega
          · have hd : (!(f j).toList == [109, 97, 116, 99, 104]) = false := by assumption
            go_round
            case rel => exact ⟨j + 1, by omega, by go_num, by rw [badM_succ_ok hd]⟩
            case measure => simp [intOf]; omega
        · have hjl : j = len := by omega
          subst hjl
          clear hc hbj
          have hsp := allM_split f n (j - n)
          rw [show n + (j - n) = j by omega] at hsp
          have hB := badM_zero f j
          cases hL : allM f n <;> cases hR : allM (fun i => f (n + i)) (j - n)
          all_goals
            rw [hL, hR] at hsp
            simp only [Bool.and_false, Bool.and_true] at hsp
            have hB2 : ((badM f j : Int) == 0) = allM f j := by
              cases hW : allM f j
              · have : badM f j ≠ 0 := fun h => by rw [hB.1 h] at hW; cases hW
                simp; omega
              · have := hB.2 hW
                simp; omega
            rw [hsp] at hB2
            clear hB
            go_wp2
            go_ret
            exact ⟨rfl, hb28⟩
  · go_wp2_with fail
    all_goals (go_ret; exact ⟨rfl, Below.refl _ _⟩)
end Go.Proofs.Qxb6634852a
