/- The law of the cut, walked. -/
import Derived.Test.Qxb6627995aWalks
namespace Go.Proofs.Qxb6627995a
open Go.RowKit

theorem bytesK_any (ao : Option Addr) (len cap : Nat) (x : Int) (w : World) (hm : len ≤ maxLen) :
    Calls Try.prog 7 #[.slice ao len cap, .int .i64 x] w fun e w' => (e = .returned (.bool true) ∨ e = .returned (.bool false)) ∧ w' = w := by
  unfold maxLen at hm
  go_enter Try.func7, Try.ntmps7
  go_wp2
  all_goals
    go_ret
    first | exact ⟨.inl rfl, rfl⟩ | exact ⟨.inr rfl, rfl⟩

theorem Bys.head {w : World} {ao : Option Addr} {cap : Nat} {L : List Int} (h : Bys w ao cap L) (n : Nat) : Bys w ao cap (L.take n) := by
  obtain ⟨h1, h2, h3, h4, h5⟩ := h
  have hl : (L.take n).length ≤ L.length := by rw [List.length_take]; omega
  have hg : ∀ i, i < (L.take n).length → (L.take n).getD i 0 = L.getD i 0 := fun i hi => by
    have : i < n := by rw [List.length_take] at hi; omega
    simp [List.getD, this]
  refine ⟨by omega, h2, fun i => ?_, fun e => by have := h4 e; omega, fun h0 => ?_⟩
  · by_cases hi : i < (L.take n).length
    · rw [hg i hi]; exact h3 i
    · rw [List.getD_eq_getElem?_getD, List.getElem?_eq_none (by omega)]; simp
  · obtain ⟨b, off, e, hlt, hc⟩ := h5 (by omega)
    exact ⟨b, off, e, hlt, fun i hi => by rw [hg i hi]; exact hc i (by omega)⟩

/-- The tail of a row that begins at the head of block g. -/
theorem Bys.tail {w : World} {g cap : Nat} {L : List Int} (h : Bys w (some ⟨g, 0, none⟩) cap L) (n : Nat) (hn : n < L.length) : Bys w (some ⟨g, n, none⟩) (cap - n) (L.drop n) := by
  obtain ⟨h1, h2, h3, h4, h5⟩ := h
  have hg : ∀ i, (L.drop n).getD i 0 = L.getD (n + i) 0 := fun i => by simp [List.getD]
  refine ⟨by rw [List.length_drop]; omega, by omega, fun i => by rw [hg]; exact h3 _, fun e => (by cases e), fun h0 => ?_⟩
  obtain ⟨b, off, e, hlt, hc⟩ := h5 (by omega)
  simp only [Option.some.injEq, Addr.mk.injEq, and_true] at e
  obtain ⟨rfl, rfl⟩ := e
  exact ⟨g, n, rfl, hlt, fun i hi => by rw [hg]; have := hc (n + i) (by rw [List.length_drop] at hi; omega); simpa using this⟩

theorem Bys.none0 {w : World} {ao : Option Addr} : ao ≠ none → Bys w ao 0 [] := fun h => ⟨Nat.le_refl _, by unfold maxLen; omega, fun i => by simp, fun e => absurd e h, fun h => by simp at h⟩

set_option maxRecDepth 100000 in
set_option maxHeartbeats 2000000 in
theorem cut_walk (ao : Option Addr) (len cap : Nat) (L : List Int) (k : Int) (w : World) (hL : L.length = len) (h : Bys w ao cap L) :
    Calls Try.prog 4 #[.slice ao len cap, .int .i64 k] w fun e w' => e = .returned (.bool true) ∧ Below w.heap.size w w' := by
  have hm : len ≤ maxLen := by have h1 := h.1; have h2 := h.2.1; omega
  have hb7 := bytesK_any ao len cap k w hm
  unfold maxLen at hm
  have q22 : ∀ (w : World) (a : Option Addr) (n c : Nat), (binOp .neq 22 (.slice a n c) (.slice none 0 0)).run Try.prog w = .ok (.bool (!a.isNone)) w := fun w a n c => run_neq_slice_nil_any w _ _ a n c 0 0 Try.underlying22
  by_cases hbig : len ≤ 1048576
  · by_cases hk : 0 ≤ k ∧ k ≤ len
    · obtain ⟨hk0, hk1⟩ := hk
      obtain ⟨n, rfl⟩ : ∃ n : Nat, k = n := ⟨k.toNat, by omega⟩
      have hmk := run_makeB len hbig
      have hcp := fun ty => copy_all ty ao cap L w h
      rw [hL] at hcp
      cases ao with
      | none =>
        obtain ⟨e1, rfl⟩ := h.2.2.2.1 rfl
        obtain rfl : len = 0 := by omega
        obtain rfl : n = 0 := by omega
        have hLn : L = [] := List.eq_nil_of_length_eq_zero (by omega)
        subst hLn
        clear hmk hcp
        go_enter Try.func4, Try.ntmps4
        go_wp2_with fail
        refine hb7.mono ?_
        rintro e w1 ⟨rfl | rfl, rfl⟩
        rotate_left
        · go_wp2_with fail
          go_ret
          exact ⟨rfl, Below.refl _ _⟩
        go_wp2_with fail
        refine (indent_any none 0 0 [] _ rfl (by omega) h).mono ?_
        rintro e w2 ⟨rfl, rfl⟩
        rw [ind_nil]
        go_wp2_with fail
        refine (indent_any none 0 0 [] _ rfl (by omega) h).mono ?_
        rintro e w3 ⟨rfl, rfl⟩
        rw [ind_nil]
        go_wp2_with fail
        refine (indent_any none 0 0 [] _ rfl (by omega) h).mono ?_
        rintro e w4 ⟨rfl, rfl⟩
        rw [ind_nil]
        go_wp2_with fail
        go_loop [11, 12, 13, 14] (fun bl sp tb i => bl = .bool true ∧ sp = .bool true ∧ tb = .bool true ∧ i = .int .i64 0) (fun _ _ _ _ => 0)
        case atStart => exact ⟨rfl, rfl, rfl, rfl⟩
        case round =>
          obtain ⟨rfl, rfl, rfl, rfl⟩ := hrel
          go_wp2_with fail
          go_loop [16, 17, 18] (fun s0 ht i => s0 = .int .i64 0 ∧ ht = .bool false ∧ i = .int .i64 0) (fun _ _ _ => 0)
          case atStart => exact ⟨rfl, rfl, rfl⟩
          case round =>
            obtain ⟨rfl, rfl, rfl⟩ := hrel
            go_wp2_with fail
            go_ret
            exact ⟨rfl, Below.refl _ _⟩
      | some a =>
        go_enter Try.func4, Try.ntmps4
        go_wp2_with fail
        refine hb7.mono ?_
        rintro e w1 ⟨rfl | rfl, rfl⟩
        rotate_left
        · clear hcp hmk
          go_wp2_with fail
          go_ret
          exact ⟨rfl, Below.refl _ _⟩
        rcases Nat.lt_or_ge n len with hnl | hnl
        · go_wp2_with fail
          have hB := bys_copy L w1 (by omega) h.2.2.1
          have hBel : Below w1.heap.size w1 (w1.alloc (.cells (cellsB L).toArray 5)) := (Below.refl _ w1).alloc (Nat.le_refl _) _
          rw [hL] at hB
          generalize w1.alloc (.cells (cellsB L).toArray 5) = W at hB hBel ⊢
          have hH := hB.head n
          have hTl : Bys W (some ⟨w1.heap.size, n, none⟩) (len - n) (L.drop n) := hB.tail n (by omega)
          have hHl : (L.take n).length = n := by rw [List.length_take]; omega
          have hTll : (L.drop n).length = (len - n) := by rw [List.length_drop]; omega
          clear hmk hcp h
          refine (indent_any _ len _ L _ hL (by omega) hB).mono ?_
          rintro e w2 ⟨rfl, rfl⟩
          go_wp2_with fail
          refine (indent_any _ n _ (L.take n) _ hHl (by omega) hH).mono ?_
          rintro e w3 ⟨rfl, rfl⟩
          go_wp2_with fail
          refine (indent_any _ (len - n) _ (L.drop n) _ hTll (by omega) hTl).mono ?_
          rintro e w4 ⟨rfl, rfl⟩
          have bW := ind_bounds L 0 (by omega)
          have bH := ind_bounds (L.take n) 0 (by omega)
          have bT := ind_bounds (L.drop n) 0 (by omega)
          rw [hL] at bW
          rw [hHl] at bH
          rw [hTll] at bT
          have HL := hid hL
          have HHl := hid hHl
          have HTll := hid hTll
          have hcH := hH.2.2.2.2
          have hcT := hTl.2.2.2.2
          rw [hHl] at hcH
          rw [hTll] at hcT
          clear hL hHl hTll hH hTl hB
          go_wp2_with fail
          go_loop [11, 12, 13, 14] (fun bl sp tb i => ∃ j : Nat, j ≤ n ∧ i = .int .i64 j ∧ bl = .bool ((L.take j).all isB) ∧ sp = .bool ((L.take j).all isS) ∧ tb = .bool ((L.take j).all isT)) (fun _ _ _ i => n - (intOf i).toNat)
          case atStart => exact ⟨0, Nat.zero_le _, rfl, by simp, by simp, by simp⟩
          case round =>
            obtain ⟨j, hj, rfl, rfl, rfl, rfl⟩ := hrel
            by_cases hlt : j < n
            · obtain ⟨b, off, ha, hb, hcell⟩ := hcH (by omega)
              simp only [Option.some.injEq, Addr.mk.injEq, and_true] at ha
              obtain ⟨rfl, rfl⟩ := ha
              have hck := hcell j hlt
              rw [Nat.zero_add, show (L.take n).getD j 0 = L.getD j 0 by simp [List.getD, hlt]] at hck
              have HB := hid (all_take_succ isB L j (by rw [HL.out]; omega))
              have HS := hid (all_take_succ isS L j (by rw [HL.out]; omega))
              have HT := hid (all_take_succ isT L j (by rw [HL.out]; omega))
              obtain ⟨x, hx⟩ : ∃ x, x = L.getD j 0 := ⟨_, rfl⟩
              rw [← hx] at hck HB HS HT
              clear hcell hcH hcT hx bW bH bT
              by_cases h1 : x = 32
              · subst h1
                go_wp2_with fail
                go_round
                case rel => exact ⟨j + 1, by omega, by go_num, by rw [HB.out]; simp [isB], by rw [HS.out]; simp [isS], by rw [HT.out]; simp [isT]⟩
                case measure => simp [intOf]; omega
              · by_cases h2 : x = 9
                · subst h2
                  go_wp2_with fail
                  go_round
                  case rel => exact ⟨j + 1, by omega, by go_num, by rw [HB.out]; simp [isB], by rw [HS.out]; simp [isS], by rw [HT.out]; simp [isT]⟩
                  case measure => simp [intOf]; omega
                · have e1 : (x == 32) = false := by simpa using h1
                  have e2 : (x == 9) = false := by simpa using h2
                  have e3 : (x != 32) = true := by simpa using h1
                  have e4 : (x != 9) = true := by simpa using h2
                  go_wp2_with fail
                  go_round
                  case rel => exact ⟨j + 1, by omega, by go_num, by rw [HB.out]; simp [isB, h1, h2], by rw [HS.out]; simp [isS, h1], by rw [HT.out]; simp [isT, h2]⟩
                  case measure => simp [intOf]; omega
            · have hjn : n = j := by omega
              subst hjn
              clear hcH
              have LS : Hid ((L.take n).all isS = true → ind 0 (L.take n) = n) := fun e => by rw [ind_spaces _ _ e, HHl.out]; omega
              have LT : Hid ((L.take n).all isT = true → ind 0 (L.take n) = 4 * n) := fun e => by rw [ind_tabs _ _ (by omega) e, HHl.out]; omega
              have LB : Hid ((L.take n).all isB = false → ind 0 L = ind 0 (L.take n)) := fun e => by have := ind_stopped (L.drop n) (L.take n) 0 e; rwa [List.take_append_drop] at this
              have LA : Hid ((L.take n).all isB = true → ind 0 L = ind (ind 0 (L.take n)) (L.drop n)) := fun e => by have := ind_append (L.drop n) (L.take n) 0 e; rwa [List.take_append_drop] at this
              have dS : (L.take n).all isS = false ∨ ((L.take n).all isS = true ∧ (ind 0 (L.take n) != (n : Int)) = false) := by
                cases hS : (L.take n).all isS
                · exact .inl rfl
                · exact .inr ⟨rfl, by rw [LS.out hS]; simp⟩
              have dT : (L.take n).all isT = false ∨ ((L.take n).all isT = true ∧ (ind 0 (L.take n) != 4 * (n : Int)) = false) := by
                cases hT : (L.take n).all isT
                · exact .inl rfl
                · exact .inr ⟨rfl, by rw [LT.out hT]; simp⟩
              clear LS LT
              rcases dS with hS | ⟨hS, fS⟩ <;> rcases dT with hT | ⟨hT, fT⟩
              all_goals
                cases hBl : (L.take n).all isB
                · have LE := hid (LB.out hBl)
                  go_wp2_with fail
                  go_ret
                  exact ⟨ret_bool (by rw [LE.out]; simp), hBel⟩
                · have LE := hid (LA.out hBl)
                  go_wp2_with fail
                  go_loop [16, 17, 18] (fun s0 ht i => ∃ q : Nat, q ≤ (len - n) ∧ i = .int .i64 q ∧ s0 = .int .i64 q ∧ ht = .bool false ∧ ((L.drop n).take q).all isS = true) (fun _ _ i => (len - n) - (intOf i).toNat)
                  case atStart => exact ⟨0, Nat.zero_le _, rfl, rfl, rfl, by simp⟩
                  case round =>
                    obtain ⟨q, hq, rfl, rfl, rfl, hsp⟩ := hrel
                    have HQ := hid hsp
                    clear hsp
                    by_cases hlt2 : q < (len - n)
                    · obtain ⟨b, off, ha, hb, hcell⟩ := hcT (by omega)
                      simp only [Option.some.injEq, Addr.mk.injEq, and_true] at ha
                      obtain ⟨rfl, rfl⟩ := ha
                      have hck := hcell q hlt2
                      have HS2 := hid (all_take_succ isS (L.drop n) q (by rw [HTll.out]; omega))
                      have hqD : q < (L.drop n).length := by rw [HTll.out]; omega
                      have HX : ∃ x, x = (L.drop n).getD q 0 := ⟨_, rfl⟩
                      obtain ⟨x, hx⟩ := HX
                      rw [← hx] at hck HS2
                      have HXX := hid hx
                      clear hcell hcT hx
                      by_cases h1 : x = 32
                      · subst h1
                        clear hqD bW
                        go_wp2_with fail
                        go_round
                        case rel => exact ⟨q + 1, by omega, by go_num, by go_num, rfl, by rw [HS2.out, HQ.out]; simp [isS]⟩
                        case measure => simp [intOf]; omega
                      · by_cases h2 : x = 9
                        · subst h2
                          have FT : Hid (ind 0 L = ind 0 (L.drop n) + 4 * ((ind 0 (L.take n) + (q : Int)) / 4 - (q : Int) / 4)) := by
                            rw [LE.out]; exact cut_tab _ _ q hqD HQ.out HXX.out.symm
                          clear hqD
                          go_wp2_with fail
                          go_ret
                          exact ⟨ret_bool (by rw [FT.out]; simp), hBel⟩
                        · have e1 : (x == 32) = false := by simpa using h1
                          have e2 : (x == 9) = false := by simpa using h2
                          have FP : Hid (ind 0 L = ind 0 (L.take n) + ind 0 (L.drop n)) := by
                            have hend : q = (L.drop n).length ∨ (¬ (L.drop n).getD q 0 = 32 ∧ ¬ (L.drop n).getD q 0 = 9) := .inr (by rw [← HXX.out]; exact ⟨h1, h2⟩)
                            show ind 0 L = ind 0 (L.take n) + ind 0 (L.drop n)
                            rw [LE.out, read_on_plain (ind 0 (L.take n)) (L.drop n) q (by omega) HQ.out hend, read_on_plain 0 (L.drop n) q (by omega) HQ.out hend]
                            omega
                          clear hqD
                          go_wp2_with fail
                          go_ret
                          exact ⟨ret_bool (by rw [FP.out]; simp), hBel⟩
                    · have hqm : q = (len - n) := by omega
                      have FP : Hid (ind 0 L = ind 0 (L.take n) + ind 0 (L.drop n)) := by
                        show ind 0 L = ind 0 (L.take n) + ind 0 (L.drop n)
                        rw [LE.out, read_on_plain (ind 0 (L.take n)) (L.drop n) q (by rw [HTll.out]; omega) HQ.out (.inl (by rw [HTll.out]; omega)), read_on_plain 0 (L.drop n) q (by rw [HTll.out]; omega) HQ.out (.inl (by rw [HTll.out]; omega))]
                        omega
                      subst hqm
                      clear hcT
                      go_wp2_with fail
                      go_ret
                      exact ⟨ret_bool (by rw [FP.out]; simp), hBel⟩
        · obtain rfl : n = len := by omega
          go_wp2_with fail
          have hB := bys_copy L w1 (by omega) h.2.2.1
          have hBel : Below w1.heap.size w1 (w1.alloc (.cells (cellsB L).toArray 5)) := (Below.refl _ w1).alloc (Nat.le_refl _) _
          rw [hL] at hB
          generalize w1.alloc (.cells (cellsB L).toArray 5) = W at hB hBel ⊢
          have hH := hB.head n
          have hTl : Bys W (some ⟨w1.heap.size, 0, none⟩) 0 (L.drop n) := by rw [List.drop_eq_nil_of_le (by omega)]; exact Bys.none0 (by simp)
          have hHl : (L.take n).length = n := by rw [List.length_take]; omega
          have hTll : (L.drop n).length = 0 := by rw [List.length_drop]; omega
          clear hmk hcp h
          refine (indent_any _ n _ L _ hL (by omega) hB).mono ?_
          rintro e w2 ⟨rfl, rfl⟩
          go_wp2_with fail
          refine (indent_any _ n _ (L.take n) _ hHl (by omega) hH).mono ?_
          rintro e w3 ⟨rfl, rfl⟩
          go_wp2_with fail
          refine (indent_any _ 0 _ (L.drop n) _ hTll (by omega) hTl).mono ?_
          rintro e w4 ⟨rfl, rfl⟩
          have bW := ind_bounds L 0 (by omega)
          have bH := ind_bounds (L.take n) 0 (by omega)
          have bT := ind_bounds (L.drop n) 0 (by omega)
          rw [hL] at bW
          rw [hHl] at bH
          rw [hTll] at bT
          have HL := hid hL
          have HHl := hid hHl
          have HTll := hid hTll
          have hcH := hH.2.2.2.2
          have hcT := hTl.2.2.2.2
          rw [hHl] at hcH
          rw [hTll] at hcT
          clear hL hHl hTll hH hTl hB
          go_wp2_with fail
          go_loop [11, 12, 13, 14] (fun bl sp tb i => ∃ j : Nat, j ≤ n ∧ i = .int .i64 j ∧ bl = .bool ((L.take j).all isB) ∧ sp = .bool ((L.take j).all isS) ∧ tb = .bool ((L.take j).all isT)) (fun _ _ _ i => n - (intOf i).toNat)
          case atStart => exact ⟨0, Nat.zero_le _, rfl, by simp, by simp, by simp⟩
          case round =>
            obtain ⟨j, hj, rfl, rfl, rfl, rfl⟩ := hrel
            by_cases hlt : j < n
            · obtain ⟨b, off, ha, hb, hcell⟩ := hcH (by omega)
              simp only [Option.some.injEq, Addr.mk.injEq, and_true] at ha
              obtain ⟨rfl, rfl⟩ := ha
              have hck := hcell j hlt
              rw [Nat.zero_add, show (L.take n).getD j 0 = L.getD j 0 by simp [List.getD, hlt]] at hck
              have HB := hid (all_take_succ isB L j (by rw [HL.out]; omega))
              have HS := hid (all_take_succ isS L j (by rw [HL.out]; omega))
              have HT := hid (all_take_succ isT L j (by rw [HL.out]; omega))
              obtain ⟨x, hx⟩ : ∃ x, x = L.getD j 0 := ⟨_, rfl⟩
              rw [← hx] at hck HB HS HT
              clear hcell hcH hcT hx bW bH bT
              by_cases h1 : x = 32
              · subst h1
                go_wp2_with fail
                go_round
                case rel => exact ⟨j + 1, by omega, by go_num, by rw [HB.out]; simp [isB], by rw [HS.out]; simp [isS], by rw [HT.out]; simp [isT]⟩
                case measure => simp [intOf]; omega
              · by_cases h2 : x = 9
                · subst h2
                  go_wp2_with fail
                  go_round
                  case rel => exact ⟨j + 1, by omega, by go_num, by rw [HB.out]; simp [isB], by rw [HS.out]; simp [isS], by rw [HT.out]; simp [isT]⟩
                  case measure => simp [intOf]; omega
                · have e1 : (x == 32) = false := by simpa using h1
                  have e2 : (x == 9) = false := by simpa using h2
                  have e3 : (x != 32) = true := by simpa using h1
                  have e4 : (x != 9) = true := by simpa using h2
                  go_wp2_with fail
                  go_round
                  case rel => exact ⟨j + 1, by omega, by go_num, by rw [HB.out]; simp [isB, h1, h2], by rw [HS.out]; simp [isS, h1], by rw [HT.out]; simp [isT, h2]⟩
                  case measure => simp [intOf]; omega
            · have hjn : n = j := by omega
              subst hjn
              clear hcH
              have LS : Hid ((L.take n).all isS = true → ind 0 (L.take n) = n) := fun e => by rw [ind_spaces _ _ e, HHl.out]; omega
              have LT : Hid ((L.take n).all isT = true → ind 0 (L.take n) = 4 * n) := fun e => by rw [ind_tabs _ _ (by omega) e, HHl.out]; omega
              have LB : Hid ((L.take n).all isB = false → ind 0 L = ind 0 (L.take n)) := fun e => by have := ind_stopped (L.drop n) (L.take n) 0 e; rwa [List.take_append_drop] at this
              have LA : Hid ((L.take n).all isB = true → ind 0 L = ind (ind 0 (L.take n)) (L.drop n)) := fun e => by have := ind_append (L.drop n) (L.take n) 0 e; rwa [List.take_append_drop] at this
              have dS : (L.take n).all isS = false ∨ ((L.take n).all isS = true ∧ (ind 0 (L.take n) != (n : Int)) = false) := by
                cases hS : (L.take n).all isS
                · exact .inl rfl
                · exact .inr ⟨rfl, by rw [LS.out hS]; simp⟩
              have dT : (L.take n).all isT = false ∨ ((L.take n).all isT = true ∧ (ind 0 (L.take n) != 4 * (n : Int)) = false) := by
                cases hT : (L.take n).all isT
                · exact .inl rfl
                · exact .inr ⟨rfl, by rw [LT.out hT]; simp⟩
              clear LS LT
              rcases dS with hS | ⟨hS, fS⟩ <;> rcases dT with hT | ⟨hT, fT⟩
              all_goals
                cases hBl : (L.take n).all isB
                · have LE := hid (LB.out hBl)
                  go_wp2_with fail
                  go_ret
                  exact ⟨ret_bool (by rw [LE.out]; simp), hBel⟩
                · have LE := hid (LA.out hBl)
                  go_wp2_with fail
                  go_loop [16, 17, 18] (fun s0 ht i => ∃ q : Nat, q ≤ 0 ∧ i = .int .i64 q ∧ s0 = .int .i64 q ∧ ht = .bool false ∧ ((L.drop n).take q).all isS = true) (fun _ _ i => 0 - (intOf i).toNat)
                  case atStart => exact ⟨0, Nat.zero_le _, rfl, rfl, rfl, by simp⟩
                  case round =>
                    obtain ⟨q, hq, rfl, rfl, rfl, hsp⟩ := hrel
                    have HQ := hid hsp
                    clear hsp
                    by_cases hlt2 : q < 0
                    · exact absurd hlt2 (Nat.not_lt_zero _)
                    · have hqm : q = 0 := by omega
                      have FP : Hid (ind 0 L = ind 0 (L.take n) + ind 0 (L.drop n)) := by
                        show ind 0 L = ind 0 (L.take n) + ind 0 (L.drop n)
                        rw [LE.out, read_on_plain (ind 0 (L.take n)) (L.drop n) q (by rw [HTll.out]; omega) HQ.out (.inl (by rw [HTll.out]; omega)), read_on_plain 0 (L.drop n) q (by rw [HTll.out]; omega) HQ.out (.inl (by rw [HTll.out]; omega))]
                        omega
                      subst hqm
                      clear hcT
                      go_wp2_with fail
                      go_ret
                      exact ⟨ret_bool (by rw [FP.out]; simp), hBel⟩
    · go_enter Try.func4, Try.ntmps4
      go_wp2_with fail
      refine hb7.mono ?_
      rintro e w1 ⟨rfl | rfl, rfl⟩
      all_goals
        go_wp2_with fail
        all_goals
          go_ret
          exact ⟨rfl, Below.refl _ _⟩
  · have hbig' : (1048576 : Int) < len := by omega
    go_enter Try.func4, Try.ntmps4
    go_wp2_with fail
    refine hb7.mono ?_
    rintro e w1 ⟨rfl | rfl, rfl⟩
    all_goals
      go_wp2_with fail
      go_ret
      exact ⟨rfl, Below.refl _ _⟩
end Go.Proofs.Qxb6627995a
