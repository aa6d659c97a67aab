import Derived.Test.Qxb6634852aMatch
namespace Go.Proofs.Qxb6634852a
open Go.RowKit

def zcs : Array Value := #[.string ⟨#[]⟩, .int .i64 0, .pointer none, .int .i64 0, .int .i64 0, .pointer none, .int .i64 0, .int .i64 0, .pointer none, .int .i64 0, .int .i64 0, .pointer none, .int .i64 0, .string ⟨#[]⟩]
theorem zcs_get (j : Nat) (h : j < 14) : zcs[j]! = zc j := by
  have : j = 0 ∨ j = 1 ∨ j = 2 ∨ j = 3 ∨ j = 4 ∨ j = 5 ∨ j = 6 ∨ j = 7 ∨ j = 8 ∨ j = 9 ∨ j = 10 ∨ j = 11 ∨ j = 12 ∨ j = 13 := by omega
  rcases this with rfl | rfl | rfl | rfl | rfl | rfl | rfl | rfl | rfl | rfl | rfl | rfl | rfl | rfl <;> rfl

theorem info36 : (Try.prog.info? 36).map (fun i => (i.zero, i.size, i.bytes)) = some (some (.agg zcs), 14, 128) := by kernel_rfl

theorem run_makeCls (n : Nat) (hn : n ≤ 100000) (w : World) :
    (Instr.makeSlice 28 (.int .i64 (n : Int)) (.int .i64 (n : Int))).run Try.prog w = .ok (.slice (some ⟨w.heap.size, 0, none⟩) n n) (w.alloc (.cells (madeCells zcs (n * 14)) 36)) := by
  obtain ⟨i, hi, hz, hs, hb⟩ := info_parts info36
  have hr := run_make (P := Try.prog) w 28 36 i (.agg zcs) Try.underlying28 hi hz .i64 .i64 n n (by omega) (Int.le_refl _) (by rw [hb]; omega) (by omega)
  simp only [Int.toNat_natCast, hs] at hr
  exact hr

/-- The cells of the classes while the first k levels are laid. -/
def clsAt (f : Nat → ByteArray) (k j : Nat) : Value := if j % 14 = 13 ∧ j / 14 < k then .string (f (j / 14)) else zc (j % 14)

theorem rowIs_cls (w : World) (n : Nat) (f : Nat → ByteArray) : (w.alloc (.cells (madeCells zcs (n * 14)) 36)).rowIs w.heap.size 36 (n * 14) (clsAt f 0) := by
  refine ⟨_, Go.Deep.blk_alloc_new _ _, size_madeCells _ _, fun i hi => ?_⟩
  have h := zcs_get (i % 14) (Nat.mod_lt _ (by omega))
  have hs : zcs.size = 14 := rfl
  simp [madeCells, hi, clsAt, hs]
  simpa using h

theorem rowIs_step {w : World} {g n k : Nat} {f : Nat → ByteArray} (h : w.rowIs g 36 (n * 14) (clsAt f k)) :
    (w.setCell ⟨g, k * 14 + 13, none⟩ (.string (f k))).rowIs g 36 (n * 14) (clsAt f (k + 1)) := by
  refine (h.set (k * 14 + 13) (.string (f k))).congr fun i _ => ?_
  unfold clsAt
  by_cases e : i = k * 14 + 13
  · subst e
    have e1 : (k * 14 + 13) % 14 = 13 := by omega
    have e2 : (k * 14 + 13) / 14 = k := by omega
    simp [e1, e2]
  · simp only [if_neg e]
    by_cases h1 : i % 14 = 13
    · have : i / 14 ≠ k := by omega
      by_cases h2 : i / 14 < k
      · simp [h1, h2, show i / 14 < k + 1 by omega]
      · simp [h1, h2, show ¬ i / 14 < k + 1 by omega]
    · simp [h1]

set_option maxHeartbeats 400000 in
theorem build_any (ao : Option Addr) (len cap : Nat) (f : Nat → ByteArray) (w : World) (hn : len ≤ 100000) (hs : Strs w ao len cap f) :
    Calls Try.prog 7 #[.slice ao len cap] w fun e w' => ∃ (p : Nat) (v : Value), e = .returned (.pointer (some ⟨p, 0, none⟩)) ∧ w'.cell? ⟨p, 0, none⟩ = some v ∧ Cls w' v len f ∧ Below w.heap.size w w' := by
  obtain ⟨hlc, hcm, hfs, hnil, hc⟩ := hs
  have q22 : ∀ (w : World) (a : Option Addr) (n c : Nat), (binOp .eql 22 (.slice a n c) (.slice none 0 0)).run Try.prog w = .ok (.bool a.isNone) w := fun w a n c => Lib.run_eql_slice_nil w _ _ a n c 0 0 Try.underlying22
  cases ao with
  | none =>
    obtain ⟨rfl, rfl⟩ := hnil rfl
    clear hc hnil hfs
    go_enter Try.func7, Try.ntmps7
    go_wp2
    go_ret
    exact ⟨_, .slice none 0 0, rfl, by simp, .inl ⟨rfl, rfl⟩, (Below.refl _ _).alloc (Nat.le_refl _) _⟩
  | some a =>
    have hmk := run_makeCls len hn
    have hrow := rowIs_cls w len f
    go_enter Try.func7, Try.ntmps7
    go_wp2
    go_loopw [4] (fun i wr => ∃ k : Nat, k ≤ len ∧ i = .int .i64 k ∧ wr.rowIs w.heap.size 36 (len * 14) (clsAt f k) ∧ Below w.heap.size w wr) (fun i _ => len - (intOf i).toNat)
    case atStart => exact ⟨0, Nat.zero_le _, rfl, hrow, (Below.refl _ _).alloc (Nat.le_refl _) _⟩
    case round =>
      obtain ⟨k, hk, rfl, hr, hbel⟩ := hrel
      clear hrow hmk hnil
      by_cases hlt : k < len
      · obtain ⟨b, off, ha, hb, hcell⟩ := hc (by omega)
        simp only [Option.some.injEq] at ha
        subst ha
        have hck : wr.cell? ⟨b, off + k, none⟩ = some (.string (f k)) := (hbel.cell (by exact hb)).trans (hcell k hlt)
        have hfr := hr.frozen (k * 14 + 13)
        have hold : wr.cell? ⟨w.heap.size, k * 14 + 13, none⟩ = some (.string ⟨#[]⟩) := by
          rw [hr.cell (by omega)]
          have e1 : (k * 14 + 13) % 14 = 13 := by omega
          have e2 : (k * 14 + 13) / 14 = k := by omega
          simp [clsAt, e1, e2, zc]
        clear hcell hc
        have HR : Hid (wr.rowIs w.heap.size 36 (len * 14) (clsAt f k)) := hr
        clear hr
        go_wp2
        go_roundw
        case rel => exact ⟨k + 1, by omega, by go_num, rowIs_step HR.out, hbel.setCell (Nat.le_refl _) _⟩
        case measure => simp [intOf]; omega
      · have hkn : k = len := by omega
        subst hkn
        clear hc
        have hsz := hbel.size
        have hlw := hr.lt
        have hcl : ∀ i j, i < k → j < 14 → wr.cell? ⟨w.heap.size, i * 14 + j, none⟩ = some (if j = 13 then .string (f i) else zc j) := by
          intro i j hi hj
          rw [hr.cell (by omega)]
          have e1 : (i * 14 + j) % 14 = j := by omega
          have e2 : (i * 14 + j) / 14 = i := by omega
          simp [clsAt, e1, e2, hi]
        have HC : Hid (∀ i j, i < k → j < 14 → wr.cell? ⟨w.heap.size, i * 14 + j, none⟩ = some (if j = 13 then .string (f i) else zc j)) := hcl
        clear hcl hr
        go_wp2
        go_ret
        refine ⟨_, .slice (some ⟨w.heap.size, 0, none⟩) k k, rfl, by simp, .inr ⟨w.heap.size, rfl, by simp; omega, fun i j hi hj => ?_⟩, hbel.alloc hsz _⟩
        rw [← HC.out i j hi hj]
        exact World.cell?_of_block (Below.heap_alloc _ _ _ hlw)
end Go.Proofs.Qxb6634852a
