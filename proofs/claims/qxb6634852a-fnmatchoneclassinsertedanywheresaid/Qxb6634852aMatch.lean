import Derived.Test.Qxb6634852aReads
import Derived.Test.Qxb6634852aPlain
import Derived.Deep.OwnRows
namespace Go.Proofs.Qxb6634852a
open Go.RowKit

/-- The j-th cell of a zero 'reconcile.Class'. -/
def zc (j : Nat) : Value :=
  if j = 0 then .string ⟨#[]⟩ else if j = 13 then .string ⟨#[]⟩ else if j % 3 = 2 then .pointer none else .int .i64 0

/-- What is told of the field Classes: nil, or a row of n classes, the i-th of level 'f i'. -/
def Cls (w : World) (v : Value) (n : Nat) (f : Nat → ByteArray) : Prop :=
  (v = .slice none 0 0 ∧ n = 0) ∨ ∃ g, v = .slice (some ⟨g, 0, none⟩) n n ∧ g < w.heap.size ∧ ∀ i j, i < n → j < 14 → w.cell? ⟨g, i * 14 + j, none⟩ = some (if j = 13 then .string (f i) else zc j)

theorem ret_bool {a b : Bool} (h : a = b) : Ending.returned (.bool a) = .returned (.bool b) := by rw [h]

set_option maxHeartbeats 400000 in
theorem match_any (p : Nat) (v : Value) (n : Nat) (f : Nat → ByteArray) (w : World) (hn : n ≤ 100000) (hp : w.cell? ⟨p, 0, none⟩ = some v) (hv : Cls w v n f) :
    Calls Try.prog 8 #[.pointer (some ⟨p, 0, none⟩)] w fun e w' => e = .returned (.bool (allM f n)) ∧ Below w.heap.size w w' := by
  rcases hv with ⟨rfl, rfl⟩ | ⟨g, rfl, hg, hcell⟩
  · go_enter Try.func8, Try.ntmps8
    go_wp2
    go_loop [10] (fun i => i = .int .i64 0) (fun _ => 0)
    case atStart => rfl
    case round =>
      subst hrel
      go_wp2
      go_ret
      exact ⟨rfl, Below.refl _ _⟩
  · go_enter Try.func8, Try.ntmps8
    go_wp2
    go_loopw [10] (fun i wr => ∃ k : Nat, k ≤ n ∧ i = .int .i64 k ∧ allM f k = true ∧ Below w.heap.size w wr) (fun i _ => n - (intOf i).toNat)
    case atStart => exact ⟨0, Nat.zero_le _, rfl, rfl, Below.refl _ _⟩
    case round =>
      obtain ⟨k, hk, rfl, hall, hbel⟩ := hrel
      have hsz := hbel.size
      by_cases hlt : k < n
      · have c : ∀ j, j < 14 → wr.cell? ⟨g, k * 14 + j, none⟩ = some (if j = 13 then .string (f k) else zc j) := fun j hj => (hbel.cell (by exact hg)).trans (hcell k j hlt hj)
        have c0 := c 0 (by omega)
        have c1 := c 1 (by omega)
        have c2 := c 2 (by omega)
        have c3 := c 3 (by omega)
        have c4 := c 4 (by omega)
        have c5 := c 5 (by omega)
        have c6 := c 6 (by omega)
        have c7 := c 7 (by omega)
        have c8 := c 8 (by omega)
        have c9 := c 9 (by omega)
        have c10 := c 10 (by omega)
        have c11 := c 11 (by omega)
        have c12 := c 12 (by omega)
        have c13 := c 13 (by omega)
        simp [zc] at c0 c1 c2 c3 c4 c5 c6 c7 c8 c9 c10 c11 c12 c13
        clear c hcell
        go_wp2
        · have hd : (!(f k).toList == [109, 97, 116, 99, 104]) = true := by assumption
          go_ret
          exact ⟨ret_bool (allM_false hlt (by unfold isM; simpa using hd)).symm, hbel.alloc hsz _⟩
        · have hd : (!(f k).toList == [109, 97, 116, 99, 104]) = false := by assumption
          go_roundw
          case rel => exact ⟨k + 1, by omega, by go_num, by simp only [allM, hall]; unfold isM; simpa using hd, hbel.alloc hsz _⟩
          case measure => simp [intOf]; omega
      · have hkn : k = n := by omega
        subst hkn
        clear hcell
        go_wp2
        go_ret
        exact ⟨ret_bool hall.symm, hbel⟩
end Go.Proofs.Qxb6634852a
