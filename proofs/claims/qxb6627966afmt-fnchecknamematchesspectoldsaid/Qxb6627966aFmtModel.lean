/- The law 'CheckName matches the documented language of names', walked out of contracts. -/
import Derived.Test.Qxb6627966aFmtCut
namespace Go.Proofs.Qxb6627966aFmt
open Go.RowKit Go.Extern.Stop Go.Stop Go.Extern

/-- Does the byte c stand among these? -/
def inA (c : Int) (l : List UInt8) : Bool := l.any fun b => decide ((b.toNat : Int) = c)

def firstA : ByteArray := ⟨#[97, 98, 99, 100, 101, 102, 103, 104, 105, 106, 107, 108, 109, 110, 111, 112, 113, 114, 115, 116, 117, 118, 119, 120, 121, 122, 48, 49, 50, 51, 52, 53, 54, 55, 56, 57, 45]⟩
def allA : ByteArray := ⟨#[97, 98, 99, 100, 101, 102, 103, 104, 105, 106, 107, 108, 109, 110, 111, 112, 113, 114, 115, 116, 117, 118, 119, 120, 121, 122, 48, 49, 50, 51, 52, 53, 54, 55, 56, 57, 45, 46, 95]⟩

theorem inA_first (c : UInt8) : inA (c.toNat : Int) firstA.data.toList = okF c := by
  have h : ∀ n : Fin 256, inA (n.val : Int) firstA.data.toList = (okN (n.val : Int) && decide (¬ (n.val : Int) = 46) && decide (¬ (n.val : Int) = 95)) := by decide +kernel
  exact h ⟨c.toNat, c.toNat_lt⟩
theorem inA_all (c : UInt8) : inA (c.toNat : Int) allA.data.toList = okc c := by
  have h : ∀ n : Fin 256, inA (n.val : Int) allA.data.toList = okN (n.val : Int) := by decide +kernel
  exact h ⟨c.toNat, c.toNat_lt⟩

theorem inA_true {c : Int} {l : List UInt8} {k : Nat} (hk : k < l.length) (h : (l[k].toNat : Int) = c) : inA c l = true := by
  unfold inA
  rw [List.any_eq_true]
  exact ⟨l[k], List.getElem_mem hk, by simpa using h⟩
theorem inA_false {c : Int} {l : List UInt8} (h : ∀ (k : Nat) (hk : k < l.length), ¬ (l[k].toNat : Int) = c) : inA c l = false := by
  cases e : inA c l with
  | false => rfl
  | true =>
    unfold inA at e
    obtain ⟨b, hb, hc⟩ := List.any_eq_true.1 e
    obtain ⟨i, hi, rfl⟩ := List.getElem_of_mem hb
    exact absurd (by simpa using hc) (h i hi)

theorem ret_bool {a b : Bool} (h : a = b) : Ending.returned (.bool a) = .returned (.bool b) := by rw [h]

set_option maxHeartbeats 400000 in
theorem inA_any (c : Int) (s : ByteArray) (w : World) (hs : s.size ≤ 100) :
    Calls Tryf.prog 10 #[.int .u8 c, .string s] w fun e w' => e = .returned (.bool (inA c s.data.toList)) ∧ w' = w := by
  go_enter Tryf.func10, Tryf.ntmps10
  go_wp2
  go_loop [5] (fun i => ∃ k : Nat, k ≤ s.size ∧ i = .int .i64 k ∧ ∀ j (h : j < s.size), j < k → ¬ (s[j].toNat : Int) = c) (fun i => s.size - (intOf i).toNat)
  case atStart => exact ⟨0, Nat.zero_le _, rfl, fun j _ h => by omega⟩
  case round =>
    obtain ⟨k, hk, rfl, hall⟩ := hrel
    have HA : Hid (∀ j (h : j < s.size), j < k → ¬ (s[j].toNat : Int) = c) := hall
    clear hall
    by_cases hlt : k < s.size
    · go_wp2
      · have ht : ((s[k].toNat : Int) == c) = true := by assumption
        go_ret
        exact ⟨ret_bool (inA_true (l := s.data.toList) (k := k) (by rw [bytes_len]; exact hlt) (by rw [bytes_get s k hlt]; simpa using ht)).symm, rfl⟩
      · have ht : ((s[k].toNat : Int) == c) = false := by assumption
        go_round
        case rel =>
          refine ⟨k + 1, by omega, by go_num, fun j hj hjk => ?_⟩
          by_cases e : j = k
          · subst e; simpa using ht
          · exact HA.out j hj (by omega)
        case measure => simp [intOf]; omega
    · have hkn : k = s.size := by omega
      subst hkn
      go_wp2
      go_ret
      exact ⟨ret_bool (inA_false fun j hj => by rw [bytes_len] at hj; rw [bytes_get s j hj]; exact HA.out j hj hj).symm, rfl⟩

theorem good_model {l : List UInt8} {c : UInt8} (h0 : l.head? = some c) (h1 : l.length ≤ 214) (hf : okF c = true) (hall : ∀ (k : Nat) (h : k < l.length), 1 ≤ k → okc l[k] = true) : good l = true := by
  unfold okF at hf
  simp only [Bool.and_eq_true, decide_eq_true_eq] at hf
  refine good_ok h0 h1 hf.1.2 hf.2 fun k hk => ?_
  by_cases e : k = 0
  · subst e
    rw [List.head?_eq_getElem?, List.getElem?_eq_getElem hk] at h0
    rw [Option.some.inj h0]
    exact hf.1.1
  · exact hall k hk (by omega)

theorem good_notF {l : List UInt8} {c : UInt8} (h0 : l.head? = some c) (hf : okF c = false) : good l = false := by
  cases l with
  | nil => rfl
  | cons d l =>
    simp only [List.head?_cons, Option.some.injEq] at h0
    subst h0
    simp [good, hf]

set_option maxHeartbeats 1000000 in
theorem model_any (s : ByteArray) (w : World) (hs : s.size ≤ 1048576) :
    Calls Tryf.prog 7 #[.string s] w fun e w' => e = .returned (.bool (good s.data.toList)) ∧ w' = w := by
  by_cases h : s.size = 0 ∨ 214 < s.size
  · have HG : Hid (good s.data.toList = false) := by
      rcases h with h | h
      · rw [List.eq_nil_of_length_eq_zero ((bytes_len s).trans h)]; exact rfl
      · exact good_long (by rw [bytes_len]; exact h)
    rcases h with h | h
    · have h' : (s.size : Int) < 1 := by omega
      clear h
      go_enter Tryf.func7, Tryf.ntmps7
      go_wp2_with fail
      go_ret
      exact ⟨ret_bool HG.out.symm, rfl⟩
    · have h' : (214 : Int) < s.size := by omega
      have h'' : ¬ (s.size : Int) < 1 := by omega
      go_enter Tryf.func7, Tryf.ntmps7
      go_wp2_with fail
      go_ret
      exact ⟨ret_bool HG.out.symm, rfl⟩
  · have h0 : 0 < s.size := by omega
    have h1 : s.size ≤ 214 := by omega
    clear h
    go_enter Tryf.func7, Tryf.ntmps7
    go_wp2_with fail
    refine (inA_any _ firstA _ (by decide)).mono ?_
    rintro e w1 ⟨rfl, rfl⟩
    rw [inA_first]
    cases hF : okF s[0]
    · have HG : Hid (good s.data.toList = false) := good_notF (bytes_head s h0) hF
      go_wp2_with fail
      go_ret
      exact ⟨ret_bool HG.out.symm, rfl⟩
    · have HF := hid hF
      clear hF
      go_wp2_with fail
      go_loop [3] (fun i => ∃ k : Nat, 1 ≤ k ∧ k ≤ s.size ∧ i = .int .i64 k ∧ ∀ j (h : j < s.size), 1 ≤ j → j < k → okc s[j] = true) (fun i => s.size - (intOf i).toNat)
      case atStart => exact ⟨1, Nat.le_refl _, by omega, rfl, fun j _ h1 h2 => by omega⟩
      case round =>
        obtain ⟨k, hk1, hk, rfl, hall⟩ := hrel
        have HA := hid hall
        clear hall
        by_cases hlt : k < s.size
        · go_wp2_with fail
          refine (inA_any _ allA _ (by decide)).mono ?_
          rintro e w2 ⟨rfl, rfl⟩
          rw [inA_all]
          cases hO : okc s[k]
          · have HG : Hid (good s.data.toList = false) := good_bad (l := s.data.toList) (k := k) (by rw [bytes_len]; exact hlt) (by rw [bytes_get s k hlt]; exact hO)
            go_wp2_with fail
            go_ret
            exact ⟨ret_bool HG.out.symm, rfl⟩
          · have HO := hid hO
            clear hO
            go_wp2_with fail
            go_round
            case rel =>
              refine ⟨k + 1, by omega, by omega, by go_num, fun j hj hj1 hjk => ?_⟩
              by_cases e : j = k
              · subst e; exact HO.out
              · exact HA.out j hj hj1 (by omega)
            case measure => simp [intOf]; omega
        · have hkn : k = s.size := by omega
          subst hkn
          have HG : Hid (good s.data.toList = true) := good_model (bytes_head s h0) (by rw [bytes_len]; exact h1) HF.out (fun j hj hj1 => by rw [bytes_len] at hj; rw [bytes_get s j hj]; exact HA.out j hj hj1 hj)
          go_wp2_with fail
          go_ret
          exact ⟨ret_bool HG.out.symm, rfl⟩

theorem bytesM_any (s : ByteArray) (w : World) (hs : s.size ≤ maxLen) :
    Calls Tryf.prog 5 #[.string s] w fun e w' => (e = .returned (.bool true) ∨ e = .returned (.bool false)) ∧ w' = w := by
  unfold maxLen at hs
  go_enter Tryf.func5, Tryf.ntmps5
  go_wp2
  all_goals
    go_ret
    first | exact ⟨.inl rfl, rfl⟩ | exact ⟨.inr rfl, rfl⟩

set_option maxHeartbeats 400000 in
theorem spec_walk (s : ByteArray) (w : World) (hs : s.size ≤ maxLen) :
    Calls Tryf.prog 3 #[.string s] w fun e w' => e = .returned (.bool true) ∧ Below w.heap.size w w' := by
  have hb5 := bytesM_any s w hs
  unfold maxLen at hs
  have q1 := eqlNil
  have q2 := eqlNilNil
  by_cases hbig : s.size ≤ 1048576
  · go_enter Tryf.func3, Tryf.ntmps3
    go_wp2_with fail
    refine hb5.mono ?_
    rintro e w1 ⟨rfl | rfl, rfl⟩
    rotate_left
    · go_wp2_with fail
      go_ret
      exact ⟨rfl, Below.refl _ _⟩
    clear hb5
    go_wp2_with fail
    refine (check_any s _).mono ?_
    rintro e w2 ⟨ht1, hb1⟩
    rcases ht1 with ⟨g1, rfl⟩ | ⟨g1, u1, v1, rfl⟩
    all_goals
      go_wp2_with fail
      refine (model_any s _ hbig).mono ?_
      rintro e w3 ⟨rfl, rfl⟩
      rw [g1]
      clear g1
      go_wp2_with fail
      go_ret
      exact ⟨rfl, hb1⟩
  · have hbig' : (1048576 : Int) < s.size := by omega
    go_enter Tryf.func3, Tryf.ntmps3
    go_wp2_with fail
    refine hb5.mono ?_
    rintro e w1 ⟨rfl | rfl, rfl⟩
    all_goals
      go_wp2_with fail
      go_ret
      exact ⟨rfl, Below.refl _ _⟩
end Go.Proofs.Qxb6627966aFmt
