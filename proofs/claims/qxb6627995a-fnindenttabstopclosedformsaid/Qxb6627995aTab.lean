/- The law of the tab stops, walked. -/
import Derived.Test.Qxb6627995aWalks
namespace Go.Proofs.Qxb6627995a
open Go.RowKit

theorem bytesT_any (ao : Option Addr) (len cap : Nat) (w : World) (hm : len ≤ maxLen) :
    Calls Try.prog 5 #[.slice ao len cap] w fun e w' => (e = .returned (.bool true) ∨ e = .returned (.bool false)) ∧ w' = w := by
  unfold maxLen at hm
  go_enter Try.func5, Try.ntmps5
  go_wp2
  all_goals
    go_ret
    first | exact ⟨.inl rfl, rfl⟩ | exact ⟨.inr rfl, rfl⟩

set_option maxHeartbeats 1000000 in
theorem tab_walk (ao : Option Addr) (len cap : Nat) (L : List Int) (w : World) (hL : L.length = len) (h : Bys w ao cap L) :
    Calls Try.prog 3 #[.slice ao len cap] w fun e w' => e = .returned (.bool true) ∧ Below w.heap.size w w' := by
  have hm : len ≤ maxLen := by have h1 := h.1; have h2 := h.2.1; omega
  have hb5 := bytesT_any ao len cap w hm
  unfold maxLen at hm
  have q22 : ∀ (w : World) (a : Option Addr) (n c : Nat), (binOp .neq 22 (.slice a n c) (.slice none 0 0)).run Try.prog w = .ok (.bool (!a.isNone)) w := fun w a n c => run_neq_slice_nil_any w _ _ a n c 0 0 Try.underlying22
  by_cases hbig : len ≤ 1048576
  · have hmk := run_makeB len hbig
    have hcp := fun ty => copy_all ty ao cap L w h
    rw [hL] at hcp
    cases ao with
    | none =>
      obtain ⟨e1, rfl⟩ := h.2.2.2.1 rfl
      obtain rfl : len = 0 := by omega
      clear hmk hcp
      go_enter Try.func3, Try.ntmps3
      go_wp2_with fail
      refine hb5.mono ?_
      rintro e w1 ⟨rfl | rfl, rfl⟩
      rotate_left
      · go_wp2_with fail
        go_ret
        exact ⟨rfl, Below.refl _ _⟩
      have hLn : L = [] := List.eq_nil_of_length_eq_zero (by omega)
      subst hLn
      go_wp2_with fail
      go_loop [4, 5, 6] (fun t r i => t = .int .i64 0 ∧ r = .int .i64 0 ∧ i = .int .i64 0) (fun _ _ _ => 0)
      case atStart => exact ⟨rfl, rfl, rfl⟩
      case round =>
        obtain ⟨rfl, rfl, rfl⟩ := hrel
        go_wp2_with fail
        refine (indent_any none 0 0 [] _ rfl (by omega) h).mono ?_
        rintro e w2 ⟨rfl, rfl⟩
        rw [ind_nil]
        go_wp2_with fail
        go_ret
        exact ⟨rfl, Below.refl _ _⟩
    | some a =>
      go_enter Try.func3, Try.ntmps3
      go_wp2_with fail
      refine hb5.mono ?_
      rintro e w1 ⟨rfl | rfl, rfl⟩
      rotate_left
      · clear hcp hmk
        go_wp2_with fail
        go_ret
        exact ⟨rfl, Below.refl _ _⟩
      go_wp2_with fail
      have hB := bys_copy L w1 (by omega) h.2.2.1
      have hBel : Below w1.heap.size w1 (w1.alloc (.cells (cellsB L).toArray 5)) := (Below.refl _ w1).alloc (Nat.le_refl _) _
      rw [hL] at hB
      generalize w1.alloc (.cells (cellsB L).toArray 5) = W at hB hBel ⊢
      have hB2 := hB
      obtain ⟨-, -, hby, -, hc⟩ := hB
      clear hmk hcp h
      go_loop [4, 5, 6] (fun t r i => ∃ (k : Nat) (T R : Int), k ≤ len ∧ i = .int .i64 k ∧ t = .int .i64 T ∧ r = .int .i64 R ∧ 0 ≤ T ∧ 0 ≤ R ∧ T + R ≤ 4 * k ∧ T % 4 = 0 ∧ ind 0 L = ind (T + R) (L.drop k)) (fun _ _ i => len - (intOf i).toNat)
      case atStart => exact ⟨0, 0, 0, Nat.zero_le _, rfl, rfl, rfl, by omega, by omega, by omega, by omega, rfl⟩
      case round =>
        obtain ⟨k, T, R, hk, rfl, rfl, rfl, hT0, hR0, hTR, hT4, hind⟩ := hrel
        have HI := hid hind
        have HT := hid hT4
        clear hind hT4
        by_cases hlt : k < len
        · obtain ⟨b, off, ha, hb, hcell⟩ := hc (by omega)
          simp only [Option.some.injEq, Addr.mk.injEq, and_true] at ha
          obtain ⟨rfl, rfl⟩ := ha
          have hck := hcell k (by omega)
          rw [Nat.zero_add] at hck
          have HD := hid (drop_cons L k (by omega))
          obtain ⟨x, hx⟩ : ∃ x, x = L.getD k 0 := ⟨_, rfl⟩
          rw [← hx] at hck HD
          clear hcell hc hby hx
          by_cases h1 : x = 32
          · subst h1
            go_wp2_with fail
            go_round
            case rel => exact ⟨k + 1, T, R + 1, by omega, by go_num, rfl, rfl, by omega, by omega, by omega, HT.out, by rw [HI.out, HD.out, ind_space]; congr 1; omega⟩
            case measure => simp [intOf]; omega
          · by_cases h2 : x = 9
            · subst h2
              go_wp2_with fail
              go_round
              case rel => exact ⟨k + 1, T + 4 * (R / 4 + 1), 0, by omega, by go_num, rfl, rfl, by omega, by omega, by omega, by have := HT.out; omega, by rw [HI.out, HD.out, ind_tab]; congr 1; have := HT.out; omega⟩
              case measure => simp [intOf]; omega
            · have e1 : (x == 32) = false := by simpa using h1
              have e2 : (x == 9) = false := by simpa using h2
              have HE : Hid (ind 0 L = T + R) := by rw [HI.out, HD.out, ind_stop _ _ h1 h2]; exact rfl
              go_wp2_with fail
              refine (indent_any _ len _ L _ hL (by omega) hB2).mono ?_
              rintro e w2 ⟨rfl, rfl⟩
              rw [HE.out]
              go_wp2_with fail
              go_ret
              exact ⟨ret_bool (by simp), hBel⟩
        · have hkn : k = len := by omega
          subst hkn
          have HE : Hid (ind 0 L = T + R) := by rw [HI.out, List.drop_eq_nil_of_le (by omega)]; exact rfl
          clear hc hby
          go_wp2_with fail
          refine (indent_any _ k _ L _ hL (by omega) hB2).mono ?_
          rintro e w2 ⟨rfl, rfl⟩
          rw [HE.out]
          go_wp2_with fail
          go_ret
          exact ⟨ret_bool (by simp), hBel⟩
  · have hbig' : (1048576 : Int) < len := by omega
    go_enter Try.func3, Try.ntmps3
    go_wp2_with fail
    refine hb5.mono ?_
    rintro e w1 ⟨rfl | rfl, rfl⟩
    all_goals
      go_wp2_with fail
      go_ret
      exact ⟨rfl, Below.refl _ _⟩
end Go.Proofs.Qxb6627995a
