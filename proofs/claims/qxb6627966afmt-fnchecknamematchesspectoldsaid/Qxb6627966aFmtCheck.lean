/- CheckName by its contract: nil exactly at a package name; only new memory is laid. -/
import Derived.Test.Qxb6627966aFmtErr
import Derived.Test.Qxb6627966aFmtPlain
import Derived.Deep.Light
namespace Go.Proofs.Qxb6627966aFmt
open Go.RowKit Go.Extern.Stop Go.Stop Go.Extern

/-- What CheckName's result tells. -/
def Told (g : Bool) (e : Ending) : Prop := (g = true ∧ e = .returned .nilIface) ∨ (g = false ∧ ∃ u v, e = .returned (.iface u v))

theorem bytes_get (s : ByteArray) (k : Nat) (_h : k < s.size) (_h' : k < s.data.toList.length) : s.data.toList[k] = s[k] := rfl
theorem bytes_len (s : ByteArray) : s.data.toList.length = s.size := by simp
theorem bytes_head (s : ByteArray) (h : 0 < s.size) : s.data.toList.head? = some s[0] := by
  rw [List.head?_eq_getElem?, List.getElem?_eq_getElem (by rw [bytes_len]; exact h)]
  rfl
theorem empty_of (s : ByteArray) (h : s.size = 0) : s.toList.isEmpty = true := by
  rw [ByteArray.toList_eq, List.isEmpty_iff_length_eq_zero, bytes_len]; exact h
theorem empty_not (s : ByteArray) (h : 0 < s.size) : s.toList.isEmpty = false := by
  cases e : s.toList.isEmpty with
  | false => rfl
  | true => rw [ByteArray.toList_eq, List.isEmpty_iff_length_eq_zero, bytes_len] at e; omega

set_option maxHeartbeats 400000 in
theorem check_len (s : ByteArray) (w : World) (h : s.size = 0 ∨ 214 < s.size) :
    Calls Tryf.prog 6 #[.string s] w fun e w' => Told (good s.data.toList) e ∧ Below w.heap.size w w' := by
  have hB : Below w.heap.size w (w.alloc (.cells #[.iface 9 (.string s)] 20)) := (Below.refl _ w).alloc (Nat.le_refl _) _
  have hg : good s.data.toList = false := by
    rcases h with h | h
    · rw [List.eq_nil_of_length_eq_zero ((bytes_len s).trans h)]; rfl
    · exact good_long (by rw [bytes_len]; exact h)
  rw [hg]
  clear hg
  rcases h with h | h
  · have he := empty_of s h
    clear h
    go_enter Tryf.func6, Tryf.ntmps6
    go_wp2_with fail
    refine (errorf0 s w.heap.size _ (by simp)).mono ?_
    rintro e w' ⟨⟨u, v, rfl⟩, hb⟩
    go_wp2_with fail
    go_ret
    exact ⟨.inr ⟨rfl, u, v, rfl⟩, hB.trans (hb.mono (by simp))⟩
  · have he := empty_not s (by omega)
    go_enter Tryf.func6, Tryf.ntmps6
    go_wp2_with fail
    refine (errorf0 s w.heap.size _ (by simp)).mono ?_
    rintro e w' ⟨⟨u, v, rfl⟩, hb⟩
    go_wp2_with fail
    go_ret
    exact ⟨.inr ⟨rfl, u, v, rfl⟩, hB.trans (hb.mono (by simp))⟩

set_option maxHeartbeats 400000 in
theorem check_first (s : ByteArray) (w : World) (h0 : 0 < s.size) (h1 : s.size ≤ 214) (h : (s[0].toNat : Int) = 46 ∨ (s[0].toNat : Int) = 95) :
    Calls Tryf.prog 6 #[.string s] w fun e w' => Told (good s.data.toList) e ∧ Below w.heap.size w w' := by
  have hB : ∀ o, Below w.heap.size w (w.alloc o) := fun o => (Below.refl _ w).alloc (Nat.le_refl _) _
  rw [good_first (bytes_head s h0) h]
  have he := empty_not s h0
  have hd : ((s[0].toNat : Int) == 46) = true ∨ (((s[0].toNat : Int) == 46) = false ∧ ((s[0].toNat : Int) == 95) = true) := by
    by_cases h4 : (s[0].toNat : Int) = 46
    · exact .inl (by simp only [h4]; rfl)
    · right
      rcases h with h | h
      · exact absurd h h4
      · exact ⟨by simp only [h]; rfl, by simp only [h]; rfl⟩
  clear h
  rcases hd with h46 | ⟨h46, h95⟩
  · go_enter Tryf.func6, Tryf.ntmps6
    go_wp2_with fail
    refine (errorf1 s _ w.heap.size _ (by simp) (by simp; rfl)).mono ?_
    rintro e w' ⟨⟨u, v, rfl⟩, hb⟩
    go_wp2_with fail
    go_ret
    exact ⟨.inr ⟨rfl, u, v, rfl⟩, (hB _).trans (hb.mono (by simp))⟩
  · go_enter Tryf.func6, Tryf.ntmps6
    go_wp2_with fail
    refine (errorf1 s _ w.heap.size _ (by simp) (by simp; rfl)).mono ?_
    rintro e w' ⟨⟨u, v, rfl⟩, hb⟩
    go_wp2_with fail
    go_ret
    exact ⟨.inr ⟨rfl, u, v, rfl⟩, (hB _).trans (hb.mono (by simp))⟩

set_option maxHeartbeats 1000000 in
theorem check_loop (s : ByteArray) (w : World) (h0 : 0 < s.size) (h1 : s.size ≤ 214) (h46 : ¬ (s[0].toNat : Int) = 46) (h95 : ¬ (s[0].toNat : Int) = 95) :
    Calls Tryf.prog 6 #[.string s] w fun e w' => Told (good s.data.toList) e ∧ Below w.heap.size w w' := by
  have hB : ∀ o, Below w.heap.size w (w.alloc o) := fun o => (Below.refl _ w).alloc (Nat.le_refl _) _
  have he := empty_not s h0
  have H46 : Hid (¬ (s[0].toNat : Int) = 46) := h46
  have H95 : Hid (¬ (s[0].toNat : Int) = 95) := h95
  have b46 : ((s[0].toNat : Int) == 46) = false := by simpa using h46
  have b95 : ((s[0].toNat : Int) == 95) = false := by simpa using h95
  clear h46 h95
  go_enter Tryf.func6, Tryf.ntmps6
  go_wp2_with fail
  go_loop [3, 4] (fun i c => ∃ k : Nat, k ≤ s.size ∧ i = .int .i64 k ∧ ∀ j (h : j < s.size), j < k → okc s[j] = true) (fun i _ => s.size - (intOf i).toNat)
  case atStart => exact ⟨0, Nat.zero_le _, rfl, fun j _ h => by omega⟩
  case round =>
    obtain ⟨k, hk, rfl, hall⟩ := hrel
    have HA : Hid (∀ j (h : j < s.size), j < k → okc s[j] = true) := hall
    clear hall b46 b95
    by_cases hlt : k < s.size
    · go_wp2_with fail
      all_goals first
        | (have hgood : okc s[k] = true := by
             unfold okc okN
             refine decide_eq_true ?_
             go_light
             simp only [bne_eq_false_iff_eq] at *
             omega
           go_round
           case rel =>
             refine ⟨k + 1, by omega, by go_num, fun j hj hjk => ?_⟩
             by_cases e : j = k
             · subst e; exact hgood
             · exact HA.out j hj (by omega)
           case measure => simp [intOf]; omega)
        | (have hbad : okc s[k] = false := by
             unfold okc okN
             refine decide_eq_false ?_
             go_light
             simp only [bne_iff_ne, ne_eq] at *
             omega
           have HG : Hid (good s.data.toList = false) := good_bad (l := s.data.toList) (k := k) (by rw [bytes_len]; exact hlt) (by rw [bytes_get s k hlt]; exact hbad)
           clear hbad
           refine (errorf2 s _ w.heap.size _ (by simp) (by simp; rfl)).mono ?_
           rintro e w' ⟨⟨u, v, rfl⟩, hb⟩
           go_wp2_with fail
           go_ret
           exact ⟨.inr ⟨HG.out, u, v, rfl⟩, (hB _).trans (hb.mono (by simp))⟩)
    · have hkn : k = s.size := by omega
      subst hkn
      have HG : Hid (good s.data.toList = true) := good_ok (bytes_head s h0) (by rw [bytes_len]; exact h1) H46.out H95.out (fun j hj => by rw [bytes_len] at hj; rw [bytes_get s j hj]; exact HA.out j hj hj)
      go_wp2_with fail
      go_ret
      exact ⟨.inl ⟨HG.out, rfl⟩, Below.refl _ _⟩

theorem check_any (s : ByteArray) (w : World) :
    Calls Tryf.prog 6 #[.string s] w fun e w' => Told (good s.data.toList) e ∧ Below w.heap.size w w' := by
  by_cases h : s.size = 0 ∨ 214 < s.size
  · exact check_len s w h
  · have h0 : 0 < s.size := by omega
    have h1 : s.size ≤ 214 := by omega
    by_cases hc : (s[0].toNat : Int) = 46 ∨ (s[0].toNat : Int) = 95
    · exact check_first s w h0 h1 hc
    · exact check_loop s w h0 h1 (fun e => hc (.inl e)) (fun e => hc (.inr e))
end Go.Proofs.Qxb6627966aFmt
