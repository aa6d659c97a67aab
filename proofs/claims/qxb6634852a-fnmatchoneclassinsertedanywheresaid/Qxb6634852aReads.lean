import Derived.Test.Qxb6634852aRows
import Derived.WalkKit
import Derived.WalkSpells
import Derived.WalkLawsBesides
namespace Go.Proofs.Qxb6634852a
open Go.RowKit

/-- What the walk is told of a slice of strings: it is empty, or its cells hold the strings 'f 0', 'f 1', ... -/
def Strs (w : World) (ao : Option Addr) (len cap : Nat) (f : Nat → ByteArray) : Prop :=
  len ≤ cap ∧ cap ≤ maxLen ∧ (∀ i, (f i).size ≤ maxLen) ∧ (ao = none → len = 0 ∧ cap = 0) ∧ (0 < len → ∃ b off, ao = some ⟨b, off, none⟩ ∧ b < w.heap.size ∧ ∀ i, i < len → w.cell? ⟨b, off + i, none⟩ = some (.string (f i)))

/-- At most 65536 elements (a word of its own, so that the walk does not rewrite by it). -/
def Small (n : Nat) : Prop := n ≤ 65536

set_option maxHeartbeats 400000 in
theorem toobig_any (ao : Option Addr) (len cap : Nat) (f : Nat → ByteArray) (x : Int) (w : World) (hs : Strs w ao len cap f) :
    Calls Try.prog 6 #[.slice ao len cap, .int .i64 x] w fun e w' => (e = .returned (.bool true) ∨ (e = .returned (.bool false) ∧ Small len)) ∧ w' = w := by
  obtain ⟨hlc, hcm, hfs, hnil, hc⟩ := hs
  unfold maxLen at hcm hfs
  by_cases hbig : len ≤ 65536 ∧ x ≤ 1048576
  · obtain ⟨h1, h2⟩ := hbig
    go_enter Try.func6, Try.ntmps6
    go_wp2
    go_loop [5, 6] (fun t i => ∃ (k : Nat) (z : Int), k ≤ len ∧ i = .int .i64 k ∧ t = .int .i64 z) (fun _ i => len - (intOf i).toNat)
    case atStart => exact ⟨0, x, Nat.zero_le _, rfl, rfl⟩
    case round =>
      obtain ⟨k, z, hk, rfl, rfl⟩ := hrel
      by_cases hlt : k < len
      · obtain ⟨b, off, rfl, hb, hcell⟩ := hc (by omega)
        have hck := hcell k hlt
        have hfk := hfs k
        clear hcell hc hnil hfs
        go_wp2
        · go_ret
          exact ⟨.inl rfl, rfl⟩
        · go_round
          case rel => exact ⟨k + 1, _, by omega, by go_num, rfl⟩
          case measure => simp [intOf]; omega
      · clear hc hnil hfs
        go_wp2
        go_ret
        exact ⟨.inr ⟨rfl, h1⟩, rfl⟩
  · clear hc hnil hfs
    by_cases hl : len ≤ 65536
    · have hx : 1048576 < x := by omega
      clear hbig
      go_enter Try.func6, Try.ntmps6
      go_wp2
      go_ret
      exact ⟨.inl rfl, rfl⟩
    · clear hbig
      have hl' : (65536 : Int) < (len : Int) := by omega
      go_enter Try.func6, Try.ntmps6
      go_wp2
      go_ret
      exact ⟨.inl rfl, rfl⟩

set_option maxHeartbeats 400000 in
theorem bytes_any (ao : Option Addr) (len cap : Nat) (f : Nat → ByteArray) (x : Int) (w : World) (hs : Strs w ao len cap f) :
    Calls Try.prog 5 #[.slice ao len cap, .int .i64 x] w fun e w' => (e = .returned (.bool true) ∨ e = .returned (.bool false)) ∧ w' = w := by
  obtain ⟨hlc, hcm, hfs, hnil, hc⟩ := hs
  unfold maxLen at hcm hfs
  by_cases h1 : len ≤ 1048576
  · go_enter Try.func5, Try.ntmps5
    go_wp2
    go_loop [5, 6] (fun t i => ∃ (k : Nat) (z : Int), k ≤ len ∧ i = .int .i64 k ∧ t = .int .i64 z ∧ 0 ≤ z ∧ z ≤ 1048576) (fun _ i => len - (intOf i).toNat)
    case atStart => exact ⟨0, len, Nat.zero_le _, rfl, rfl, by omega, by omega⟩
    case round =>
      obtain ⟨k, z, hk, rfl, rfl, hz0, hz1⟩ := hrel
      by_cases hlt : k < len
      · obtain ⟨b, off, rfl, hb, hcell⟩ := hc (by omega)
        have hck := hcell k hlt
        have hfk := hfs k
        clear hcell hc hnil hfs
        go_wp2
        · go_ret
          exact ⟨.inr rfl, rfl⟩
        · go_ret
          exact ⟨.inr rfl, rfl⟩
        · go_round
          case rel => exact ⟨k + 1, _, by omega, by go_num, rfl, by omega, by omega⟩
          case measure => simp [intOf]; omega
      · clear hc hnil hfs
        go_wp2
        go_ret
        exact ⟨.inl rfl, rfl⟩
  · clear hc hnil hfs
    go_enter Try.func5, Try.ntmps5
    go_wp2
    go_ret
    exact ⟨.inr rfl, rfl⟩

set_option maxHeartbeats 400000 in
theorem bytes2_any (ao : Option Addr) (len cap : Nat) (f : Nat → ByteArray) (s : ByteArray) (x : Int) (w : World) (hs : Strs w ao len cap f) (hsz : s.size ≤ maxLen) :
    Calls Try.prog 9 #[.slice ao len cap, .string s, .int .i64 x] w fun e w' => (e = .returned (.bool true) ∨ e = .returned (.bool false)) ∧ w' = w := by
  obtain ⟨hlc, hcm, hfs, hnil, hc⟩ := hs
  unfold maxLen at hcm hfs hsz
  by_cases h1 : len ≤ 1048576
  · go_enter Try.func9, Try.ntmps9
    go_wp2
    go_loop [7, 8] (fun t i => ∃ (k : Nat) (z : Int), k ≤ len ∧ i = .int .i64 k ∧ t = .int .i64 z ∧ 0 ≤ z ∧ z ≤ 1048576) (fun _ i => len - (intOf i).toNat)
    case atStart => exact ⟨0, len, Nat.zero_le _, rfl, rfl, by omega, by omega⟩
    case round =>
      obtain ⟨k, z, hk, rfl, rfl, hz0, hz1⟩ := hrel
      by_cases hlt : k < len
      · obtain ⟨b, off, rfl, hb, hcell⟩ := hc (by omega)
        have hck := hcell k hlt
        have hfk := hfs k
        clear hcell hc hnil hfs
        go_wp2
        · go_ret
          exact ⟨.inr rfl, rfl⟩
        · go_ret
          exact ⟨.inr rfl, rfl⟩
        · go_round
          case rel => exact ⟨k + 1, _, by omega, by go_num, rfl, by omega, by omega⟩
          case measure => simp [intOf]; omega
      · clear hc hnil hfs
        go_wp2
        all_goals
          go_ret
          first | exact ⟨.inl rfl, rfl⟩ | exact ⟨.inr rfl, rfl⟩
  · clear hc hnil hfs
    go_enter Try.func9, Try.ntmps9
    go_wp2
    go_ret
    exact ⟨.inr rfl, rfl⟩
end Go.Proofs.Qxb6634852a
