import Derived.Test.Qxb6634852aSplits
namespace Go.Proofs.Qxb6634852a
open Go.RowKit

theorem info9 : (Try.prog.info? 9).map (fun i => (i.zero, i.size, i.bytes)) = some (some (.string ⟨#[]⟩), 1, 16) := by kernel_rfl

theorem run_makeStrs (n : Nat) (hn : n ≤ 65536) (w : World) :
    (Instr.makeSlice 22 (.int .i64 0) (.int .i64 ((n : Int) + 1))).run Try.prog w = .ok (.slice (some ⟨w.heap.size, 0, none⟩) 0 (n + 1)) (w.alloc (.cells (madeCells #[.string ⟨#[]⟩] (n + 1)) 9)) := by
  obtain ⟨i, hi, hz, hs, hb⟩ := info_parts info9
  have hr := run_make (P := Try.prog) w 22 9 i (.string ⟨#[]⟩) Try.underlying22 hi hz .i64 .i64 0 ((n : Int) + 1) (by omega) (by omega) (by rw [hb]; omega) (by omega)
  have e : ((n : Int) + 1).toNat = n + 1 := by omega
  simp only [Int.toNat_zero, e, hs, Nat.mul_one] at hr
  exact hr

/-- The first n strings as cells. -/
def vs (f : Nat → ByteArray) (n : Nat) : List Value := (List.range n).map fun i => .string (f i)

theorem vs_length (f : Nat → ByteArray) (n : Nat) : (vs f n).length = n * 1 := by simp [vs]
theorem vs_one (f : Nat → ByteArray) (n : Nat) : ∀ u ∈ vs f n, u.oneCell' = true := by
  intro u hu
  obtain ⟨_, _, rfl⟩ := List.mem_map.1 hu
  rfl
theorem vs_get (f : Nat → ByteArray) (n j : Nat) (h : j < n) : (vs f n)[j]? = some (.string (f j)) := by simp [vs, h]

theorem Strs.none {w : World} {ao : Option Addr} {len cap : Nat} {f : Nat → ByteArray} (h : Strs w ao len cap f) : ao = none → len = 0 ∧ cap = 0 := h.2.2.2.1

theorem Strs.cells {w : World} {ao : Option Addr} {len cap : Nat} {f : Nat → ByteArray} (h : Strs w ao len cap f) :
    ∀ ad, ao = some ad → ∀ j u, (vs f len)[j]? = some u → w.cell? (ad.add j) = some u := by
  intro ad ha j u hu
  have hj : j < len := by have := (List.getElem?_eq_some_iff.1 hu).1; simpa [vs] using this
  rw [vs_get f len j hj] at hu
  obtain ⟨b, off, e, _, hc⟩ := h.2.2.2.2 (by omega)
  rw [e] at ha
  obtain rfl := Option.some.inj ha
  rw [Addr.add_lit, hc j hj]
  exact hu

theorem strs_ins {w : World} {base g n len m c : Nat} {f : Nat → ByteArray} {x : ByteArray} (h : w.ownsRow base 9 1 (.slice (some ⟨g, 0, none⟩) m c) m (vs f n ++ Value.string x :: vs (fun i => f (n + i)) (len - n)))
    (hn : n ≤ len) (hm : m = len + 1) (hx : x.size ≤ maxLen) (hf : ∀ i, (f i).size ≤ maxLen) : Strs w (some ⟨g, 0, none⟩) m c (insM f x n) := by
  have hL : vs f n ++ Value.string x :: vs (fun i => f (n + i)) (len - n) = vs f n ++ [Value.string x] ++ vs (fun i => f (n + i)) (len - n) := by simp
  rw [hL] at h
  have hlt := (h.lt g rfl).2
  have hcap : m ≤ c ∧ c ≤ maxLen := by
    rcases h.2 with ⟨h', _⟩ | ⟨g', cap', cur, h', _, _, h1, h2, _⟩
    · simp at h'
    · simp only [Value.slice.injEq, true_and] at h'
      rw [h'.2]; exact ⟨h1, h2⟩
  refine ⟨hcap.1, hcap.2, fun i => ?_, fun e => (by cases e), fun _ => ⟨g, 0, rfl, hlt, fun i hi => ?_⟩⟩
  · unfold insM
    split
    · exact hf _
    · split
      · exact hx
      · exact hf _
  · rw [Nat.zero_add, h.cellAt i (by omega)]
    unfold insM
    by_cases h1 : i < n
    · rw [if_pos h1, List.append_assoc, List.getElem?_append_left (by rw [vs_length]; omega), vs_get _ _ _ h1]
    · rw [if_neg h1]
      by_cases h2 : i = n
      · subst h2
        rw [if_pos rfl, List.append_assoc, List.getElem?_append_right (by rw [vs_length]; omega)]
        simp [vs_length]
      · rw [if_neg h2, List.getElem?_append_right (by simp [vs_length]; omega), vs_get _ _ _ (by simp [vs_length]; omega)]
        simp only [List.length_append, vs_length, List.length_cons, List.length_nil]
        congr 3
        omega

set_option maxHeartbeats 1000000 in
theorem insert_walk (ao : Option Addr) (len cap : Nat) (f : Nat → ByteArray) (x : ByteArray) (k : Int) (w : World) (hs : Strs w ao len cap f) (hx : x.size ≤ maxLen) :
    Calls Try.prog 4 #[.slice ao len cap, .string x, .int .i64 k] w fun e w' => e = .returned (.bool true) ∧ Below w.heap.size w w' := by
  have hb9 := bytes2_any ao len cap f x k w hs hx
  have hb6 := toobig_any ao len cap f (16 + (x.size : Int)) w hs
  have hlm : len ≤ 9223372036854775807 := by have h1 := hs.1; have h2 := hs.2.1; unfold maxLen at h2; omega
  have hcm : cap ≤ 9223372036854775807 := by have h2 := hs.2.1; unfold maxLen at h2; omega
  have hlc := hs.1
  unfold maxLen at hx
  by_cases hxs : (x.size : Int) ≤ 65536
  · go_enter Try.func4, Try.ntmps4
    go_wp2_with fail
    refine hb9.mono ?_
    rintro e w1 ⟨rfl | rfl, rfl⟩
    rotate_left
    · go_wp2_with fail
      go_ret
      exact ⟨rfl, Below.refl _ _⟩
    go_wp2_with fail
    refine hb6.mono ?_
    rintro e w2 ⟨rfl | ⟨rfl, hsm⟩, rfl⟩
    · go_wp2_with fail
      go_ret
      exact ⟨rfl, Below.refl _ _⟩
    clear hb9 hb6
    by_cases hk : 0 ≤ k ∧ k ≤ len
    · obtain ⟨hk0, hk1⟩ := hk
      obtain ⟨n, rfl⟩ : ∃ n : Nat, k = n := ⟨k.toNat, by omega⟩
      have hmk := run_makeStrs len hsm
      have hl6 : len ≤ 65536 := hsm
      obtain ⟨i0, hi, hz0, hz1, hz2⟩ := info_parts info9
      have hown0 := World.ownsRow_made (base := w2.heap.size) (e := 9) (size := 1) w2 (madeCells #[.string ⟨#[]⟩] (len + 1)) (len + 1) (Nat.le_refl _) (by unfold maxLen; omega) (by simp [size_madeCells])
      have hbA : Below w2.heap.size w2 (w2.alloc (.cells (madeCells #[.string ⟨#[]⟩] (len + 1)) 9)) := (Below.refl _ _).alloc (Nat.le_refl _) _
      have hsA := (hs.below hbA).head (n := n) (by omega)
      go_wp2_with (at_builtin; refine wpList_append_fits_any _ rfl (.tmp 37) (.tmp 40) 22 rfl w2.heap.size 9 i0 1 Try.underlying22 hi hz1 w2.heap.size 0 (len + 1) [] rfl hown0 ao n cap (vs f n) rfl (vs_length f n) hsA.none hsA.cells (vs_one f n) (by omega) ?_)
      intro w3 hown1 hgrow1
      have hb3 : Below w2.heap.size w2 w3 := hbA.grown hgrow1 (by simp) (fun k hk => by cases hk; exact Nat.le_refl _)
      have hsz3 : w2.heap.size < w3.heap.size := (hown1.lt _ rfl).2
      clear hown0 hsA hbA hgrow1 hmk
      have hcx : ∀ j u, [Value.string x][j]? = some u → (w3.alloc (.cells #[.string x] 9)).cell? ((⟨w3.heap.size, 0, none⟩ : Addr).add j) = some u := cell_one_new _ _ _
      go_wp2_with (at_builtin; refine wpList_append_fits _ rfl (.tmp 42) (.tmp 44) 22 rfl w2.heap.size 9 i0 1 Try.underlying22 hi hz1 w2.heap.size n (len + 1) (vs f n) rfl (hown1.alloc _) ⟨w3.heap.size, 0, none⟩ 1 1 [.string x] rfl rfl hcx (by intro u hu; simp at hu; subst hu; rfl) (by omega) ?_)
      intro w4 hown2 hgrow2
      have hb4 : Below w2.heap.size w2 w4 := (hb3.alloc hb3.size _).grown hgrow2 (by simp; omega) (fun k hk => by cases hk; exact Nat.le_refl _)
      clear hown1 hgrow2 hb3 hsz3 hcx
      have hs4 := hs.below hb4
      have hnl : n ≤ len := by omega
      have hT2 : (cap = n ∧ Strs w4 ao (len - n) 0 (fun i => f (n + i))) ∨ (¬ cap = n ∧ Strs w4 (Option.map (fun x => x.add n) ao) (len - n) (cap - n) (fun i => f (n + i))) := by
        by_cases hcn : cap = n
        · exact .inl ⟨hcn, hs4.tail0 hcn⟩
        · exact .inr ⟨hcn, hs4.tail hnl⟩
      clear hs4
      rcases hT2 with ⟨hcn, hT⟩ | ⟨hcn, hT⟩
      all_goals
        go_wp2_with (at_builtin; refine wpList_append_fits_any _ rfl (.tmp 46) (.tmp 49) 22 rfl w2.heap.size 9 i0 1 Try.underlying22 hi hz1 w2.heap.size (n + 1) (len + 1) (vs f n ++ [.string x]) rfl hown2 _ (len - n) _ (vs (fun i => f (n + i)) (len - n)) rfl (vs_length _ _) hT.none hT.cells (vs_one _ _) (by omega) ?_)
        intro w5 hown3 hgrow3
        rw [show n + 1 + (len - n) = len + 1 by omega] at hown3 ⊢
      have hcn2 := hcn.symm
      clear hcn
      subst hcn2
      all_goals
        have hb5 : Below w2.heap.size w2 w5 := hb4.grown hgrow3 hb4.size (fun k hk => by cases hk; exact Nat.le_refl _)
        have hl5 : w2.heap.size < w5.heap.size := (hown3.lt _ rfl).2
        have hi5 := strs_ins (n := n) (len := len) hown3 hnl rfl (by unfold maxLen; omega) hs.2.2.1
        clear hown3 hgrow3 hT hb4 hown2 hi hz0 hz1 hz2
        have hs5 := hs.below hb5
        go_wp2_with fail
        refine (build_any ao len _ f w5 (by unfold Small at hsm; omega) hs5).mono ?_
        rintro e w6 ⟨p6, v6, rfl, hc6, hv6, hb6⟩
        go_wp2_with fail
        refine (match_any p6 v6 len f w6 (by unfold Small at hsm; omega) hc6 hv6).mono ?_
        rintro e w7 ⟨rfl, hb7⟩
        have hb57 := hb6.trans (hb7.mono hb6.size)
        clear hb6 hb7 hc6 hv6
        have hi7 := hi5.below hb57
        have hb27 := hb5.trans (hb57.mono hb5.size)
        clear hs5 hi5 hb5 hb57
        go_wp2_with fail
        refine (build_any _ (len + 1) _ (insM f x n) w7 (by omega) hi7).mono ?_
        rintro e w8 ⟨p8, v8, rfl, hc8, hv8, hb8⟩
        go_wp2_with fail
        refine (match_any p8 v8 (len + 1) (insM f x n) w8 (by omega) hc8 hv8).mono ?_
        rintro e w9 ⟨rfl, hb9⟩
        have hb29 := hb27.trans ((hb8.trans (hb9.mono hb8.size)).mono hb27.size)
        clear hb8 hb9 hc8 hv8 hi7 hb27
        have hs9 := hs.below hb29
        go_wp2_with fail
      all_goals
        obtain ⟨h91, h92, h93, h94, hc⟩ := hs9
        clear h91 h92 h93 h94 hs
        have hI := allM_ins f x n len hnl
        go_loop [10, 11] (fun t i => ∃ k : Nat, k ≤ len ∧ i = .int .i64 k ∧ t = .int .i64 (-1) ∧ ∀ i, k ≤ i → i < len → isM (f i) = true) (fun _ i => (intOf i).toNat)
        case atStart => exact ⟨len, Nat.le_refl _, rfl, rfl, fun i h1 h2 => by omega⟩
        case round =>
          obtain ⟨k, hk, rfl, rfl, hall⟩ := hrel
          by_cases hpos : 0 < k
          · obtain ⟨b, off, rfl, hb, hcell⟩ := hc (by omega)
            have hck := hcell (k - 1) (by omega)
            clear hcell hc
            have HA : Hid (∀ i, k ≤ i → i < len → isM (f i) = true) := hall
            clear hall
            cases hm : ((f (k - 1)).toList == [109, 97, 116, 99, 104])
            · have hA : allM f len = false := allM_false (k := k - 1) (by omega) (by unfold isM; exact hm)
              have hI2 : allM (insM f x n) (len + 1) = false := by rw [hI, hA]; simp
              clear hI
              cases hxm : (x.toList == [109, 97, 116, 99, 104])
              all_goals
                go_wp2
                go_ret
                exact ⟨ret_bool (by simp; omega), hb29⟩
            · clear hI
              go_wp2
              go_round
              case rel =>
                refine ⟨k - 1, by omega, by go_num, rfl, fun i h1 h2 => ?_⟩
                by_cases e : i = k - 1
                · subst e; unfold isM; exact hm
                · exact HA.out i (by omega) h2
              case measure => simp [intOf]; omega
          · obtain rfl : k = 0 := by omega
            have hA : allM f len = true := (allM_true f len).2 (fun i hi => hall i (by omega) hi)
            rw [hA] at hI
            clear hc hall
            cases hxm : (x.toList == [109, 97, 116, 99, 104])
            all_goals
              have hI2 : allM (insM f x n) (len + 1) = (x.toList == [109, 97, 116, 99, 104]) := by rw [hI]; simp [isM]
              rw [hxm] at hI2
              clear hI
              go_wp2
              go_ret
              exact ⟨rfl, hb29⟩
    · go_wp2_with fail
      all_goals (go_ret; exact ⟨rfl, Below.refl _ _⟩)
  · go_enter Try.func4, Try.ntmps4
    go_wp2_with fail
    refine hb9.mono ?_
    rintro e w1 ⟨rfl | rfl, rfl⟩
    all_goals
      go_wp2_with fail
      go_ret
      exact ⟨rfl, Below.refl _ _⟩
end Go.Proofs.Qxb6634852a
