/- The law 'a name splits at any cut', walked out of CheckName's contract. -/
import Derived.Test.Qxb6627966aFmtCheck
namespace Go.Proofs.Qxb6627966aFmt
open Go.RowKit Go.Extern.Stop Go.Stop Go.Extern

theorem hid {p : Prop} (h : p) : Hid p := h

theorem bytesC_any (s : ByteArray) (x : Int) (w : World) (hs : s.size ≤ maxLen) :
    Calls Tryf.prog 8 #[.string s, .int .i64 x] w fun e w' => (e = .returned (.bool true) ∨ e = .returned (.bool false)) ∧ w' = w := by
  unfold maxLen at hs
  go_enter Tryf.func8, Tryf.ntmps8
  go_wp2
  all_goals
    go_ret
    first | exact ⟨.inl rfl, rfl⟩ | exact ⟨.inr rfl, rfl⟩

theorem take_bytes (s : ByteArray) (n : Nat) : (s.extract 0 n).data.toList = s.data.toList.take n := by
  simp [ByteArray.data_extract]
theorem drop_bytes (s : ByteArray) (n : Nat) : ((⟨#[48]⟩ : ByteArray) ++ s.extract n s.size).data.toList = 48 :: s.data.toList.drop n := by
  simp [ByteArray.data_append, ByteArray.data_extract]
  exact List.take_of_length_le (by simp)

set_option maxHeartbeats 1000000 in
theorem cut_walk (s : ByteArray) (k : Int) (w : World) (hs : s.size ≤ maxLen) :
    Calls Tryf.prog 4 #[.string s, .int .i64 k] w fun e w' => e = .returned (.bool true) ∧ Below w.heap.size w w' := by
  have hb8 := bytesC_any s k w hs
  unfold maxLen at hs
  have q1 := eqlNil
  have q2 := eqlNilNil
  by_cases hbig : s.size ≤ 1048576
  · by_cases hk : 1 ≤ k ∧ k < s.size
    · obtain ⟨hk0, hk1⟩ := hk
      obtain ⟨n, rfl⟩ : ∃ n : Nat, k = n := ⟨k.toNat, by omega⟩
      go_enter Tryf.func4, Tryf.ntmps4
      go_wp2_with fail
      refine hb8.mono ?_
      rintro e w1 ⟨rfl | rfl, rfl⟩
      rotate_left
      · go_wp2_with fail
        go_ret
        exact ⟨rfl, Below.refl _ _⟩
      clear hb8
      have HS : Hid (good s.data.toList = (decide (s.data.toList.length ≤ 214) && good (s.extract 0 n).data.toList && good ((⟨#[48]⟩ : ByteArray) ++ s.extract n s.size).data.toList)) := by
        rw [take_bytes, drop_bytes]
        exact good_split _ n (by omega) (by rw [bytes_len]; omega)
      go_wp2_with fail
      refine (check_any s _).mono ?_
      rintro e w2 ⟨ht1, hb1⟩
      rcases ht1 with ⟨g1, rfl⟩ | ⟨g1, u1, v1, rfl⟩
      all_goals
        have G1 := hid g1
        clear g1
        go_wp2_with fail
        refine (check_any _ _).mono ?_
        rintro e w3 ⟨ht2, hb2⟩
        have hb12 := hb1.trans (hb2.mono hb1.size)
        rcases ht2 with ⟨g2, rfl⟩ | ⟨g2, u2, v2, rfl⟩
        all_goals
          have G2 := hid g2
          clear g2
          go_wp2_with fail
          refine (check_any _ _).mono ?_
          rintro e w4 ⟨ht3, hb3⟩
          have hb13 := hb12.trans (hb3.mono hb12.size)
          by_cases h214 : (s.size : Int) ≤ 214
          all_goals
            have HL : Hid (decide (s.data.toList.length ≤ 214) = decide ((s.size : Int) ≤ 214)) := by
              rw [bytes_len]; exact decide_eq_decide.2 (by omega)
            rcases ht3 with ⟨g3, rfl⟩ | ⟨g3, u3, v3, rfl⟩
            all_goals
              have HE : Hid (good s.data.toList = (decide ((s.size : Int) ≤ 214) && good (s.extract 0 n).data.toList && good ((⟨#[48]⟩ : ByteArray) ++ s.extract n s.size).data.toList)) := by
                rw [← HL.out]; exact HS.out
              first
                | (exfalso
                   have h := HE.out
                   rw [G1.out, G2.out, g3] at h
                   simp [h214] at h
                   done)
                | (clear g3
                   go_wp2_with fail
                   go_ret
                   exact ⟨rfl, hb13⟩)
    · go_enter Tryf.func4, Tryf.ntmps4
      go_wp2_with fail
      refine hb8.mono ?_
      rintro e w1 ⟨rfl | rfl, rfl⟩
      all_goals
        go_wp2_with fail
        all_goals
          go_ret
          exact ⟨rfl, Below.refl _ _⟩
  · have hbig' : (1048576 : Int) < s.size := by omega
    go_enter Tryf.func4, Tryf.ntmps4
    go_wp2_with fail
    refine hb8.mono ?_
    rintro e w1 ⟨rfl | rfl, rfl⟩
    all_goals
      go_wp2_with fail
      go_ret
      exact ⟨rfl, Below.refl _ _⟩
end Go.Proofs.Qxb6627966aFmt
