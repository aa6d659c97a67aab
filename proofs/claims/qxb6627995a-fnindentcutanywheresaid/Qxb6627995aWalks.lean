/- What the two laws share: the bytes that came in, Indent by its contract, the copy. -/
import Derived.Test.Qxb6627995aRows
import Derived.Test.Qxb6627995aPlain
import Derived.WalkKit
import Derived.WalkSpells
import Derived.WalkLawsBesides
import Derived.Deep.OwnRows
import Derived.Laws.CopyOwn
namespace Go.Proofs.Qxb6627995a
open Go.RowKit

theorem hid {p : Prop} (h : p) : Hid p := h
theorem ret_bool {a b : Bool} (h : a = b) : Ending.returned (.bool a) = .returned (.bool b) := by rw [h]
theorem ret_int {k : IntKind} {a b : Int} (h : a = b) : Ending.returned (.int k a) = .returned (.int k b) := by rw [h]

/-- What the walk is told of a slice of bytes whose elements are the list L. -/
def Bys (w : World) (ao : Option Addr) (cap : Nat) (L : List Int) : Prop :=
  L.length ≤ cap ∧ cap ≤ maxLen ∧ (∀ i, 0 ≤ L.getD i 0 ∧ L.getD i 0 ≤ 255) ∧ (ao = none → L.length = 0 ∧ cap = 0) ∧
  (0 < L.length → ∃ b off, ao = some ⟨b, off, none⟩ ∧ b < w.heap.size ∧ ∀ i, i < L.length → w.cell? ⟨b, off + i, none⟩ = some (.int .u8 (L.getD i 0)))

theorem Bys.below {w w' : World} {ao : Option Addr} {cap : Nat} {L : List Int} (h : Bys w ao cap L) (hb : Below w.heap.size w w') : Bys w' ao cap L := by
  obtain ⟨h1, h2, h3, h4, h5⟩ := h
  refine ⟨h1, h2, h3, h4, fun hl => ?_⟩
  obtain ⟨b, off, e, hlt, hc⟩ := h5 hl
  exact ⟨b, off, e, Nat.lt_of_lt_of_le hlt hb.size, fun i hi => (hb.cell (by exact hlt)).trans (hc i hi)⟩

set_option maxHeartbeats 400000 in
theorem indent_any (ao : Option Addr) (len cap : Nat) (L : List Int) (w : World) (hL : L.length = len) (hn : len ≤ 1048576) (h : Bys w ao cap L) :
    Calls Try.prog 6 #[.slice ao len cap] w fun e w' => e = .returned (.int .i64 (ind 0 L)) ∧ w' = w := by
  obtain ⟨hlc, hcm, hby, hnil, hc⟩ := h
  go_enter Try.func6, Try.ntmps6
  go_wp2
  go_loop [3, 8] (fun t i => ∃ (k : Nat) (c : Int), k ≤ len ∧ i = .int .i64 k ∧ t = .int .i64 c ∧ 0 ≤ c ∧ c ≤ 4 * k ∧ ind 0 L = ind c (L.drop k)) (fun _ i => len - (intOf i).toNat)
  case atStart => exact ⟨0, 0, Nat.zero_le _, rfl, rfl, by omega, by omega, rfl⟩
  case round =>
    obtain ⟨k, c, hk, rfl, rfl, hc0, hc1, hind⟩ := hrel
    have HI := hid hind
    clear hind
    by_cases hlt : k < len
    · obtain ⟨b, off, rfl, hb, hcell⟩ := hc (by omega)
      have hck := hcell k (by omega)
      have HD := hid (drop_cons L k (by omega))
      obtain ⟨x, hx⟩ : ∃ x, x = L.getD k 0 := ⟨_, rfl⟩
      rw [← hx] at hck HD
      clear hcell hc hby hx hnil
      by_cases h1 : x = 32
      · subst h1
        go_wp2
        go_round
        case rel => exact ⟨k + 1, c + 1, by omega, by go_num, rfl, by omega, by omega, by rw [HI.out, HD.out, ind_space]⟩
        case measure => simp [intOf]; omega
      · by_cases h2 : x = 9
        · subst h2
          go_wp2
          go_round
          case rel => exact ⟨k + 1, c + (4 - c % 4), by omega, by go_num, rfl, by omega, by omega, by rw [HI.out, HD.out, ind_tab]⟩
          case measure => simp [intOf]; omega
        · have e1 : (x == 32) = false := by simpa using h1
          have e2 : (x == 9) = false := by simpa using h2
          go_wp2
          go_ret
          exact ⟨ret_int (by rw [HI.out, HD.out, ind_stop _ _ h1 h2]), rfl⟩
    · have hkn : k = len := by omega
      subst hkn
      clear hc hby hnil
      go_wp2
      go_ret
      exact ⟨ret_int (by rw [HI.out, List.drop_eq_nil_of_le (by omega)]; rfl), rfl⟩

theorem info5 : (Try.prog.info? 5).map (fun i => (i.zero, i.size, i.bytes)) = some (some (.int .u8 0), 1, 1) := by kernel_rfl
theorem size5 : (Try.prog.info? 5).map (·.size) = some 1 := by kernel_rfl

theorem run_makeB (n : Nat) (hn : n ≤ 1048576) (w : World) :
    (Instr.makeSlice 22 (.int .i64 (n : Int)) (.int .i64 (n : Int))).run Try.prog w = .ok (.slice (some ⟨w.heap.size, 0, none⟩) n n) (w.alloc (.cells (madeCells #[.int .u8 0] n) 5)) :=
  run_make_row' 22 5 (.int .u8 0) 1 Try.underlying22 info5 rfl .i64 .i64 n (by omega) (by omega) w

theorem setRow_alloc (w : World) (a b : Array Value) (t : TypeId) : (w.alloc (.cells a t)).setRow w.heap.size b = w.alloc (.cells b t) := by
  unfold World.setRow World.alloc
  congr 1
  apply Array.ext_getElem?
  intro i
  rw [Array.getElem?_modify, Array.getElem?_push, Array.getElem?_push]
  by_cases h : i = w.heap.size
  · subst h; simp
  · rw [if_neg (fun e => h e.symm), if_neg h, if_neg h]

/-- The bytes as cells. -/
def cellsB (L : List Int) : List Value := L.map (Value.int .u8)

theorem copy_all (ty : Nat) (ao : Option Addr) (cap : Nat) (L : List Int) (w : World) (h : Bys w ao cap L) :
    (Builtin.copy_ #[22, 22] ty #[.slice (some ⟨w.heap.size, 0, none⟩) L.length L.length, .slice ao L.length cap]).run Try.prog (w.alloc (.cells (madeCells #[.int .u8 0] L.length) 5)) = .ok (goInt L.length) (w.alloc (.cells (cellsB L).toArray 5)) := by
  obtain ⟨hlc, hcm, hby, hnil, hc⟩ := h
  by_cases h0 : L.length = 0
  · have hl : L = [] := List.eq_nil_of_length_eq_zero h0
    subst hl
    have hr := run_copy_none (P := Try.prog) (w.alloc (.cells (madeCells #[.int .u8 0] 0) 5)) 22 22 ty 5 (some ⟨w.heap.size, 0, none⟩) ao 0 0 0 cap Try.underlying22 size5 (by simp)
    simp only [List.length_nil, cellsB, List.map_nil]
    have e : madeCells #[Value.int .u8 0] 0 = #[] := by simp [madeCells]
    rw [e] at hr ⊢
    exact hr
  · obtain ⟨b, off, rfl, hb, hcell⟩ := hc (by omega)
    have hsrc : ∀ j v, (cellsB L)[j]? = some v → (w.alloc (.cells (madeCells #[.int .u8 0] L.length) 5)).cell? ((⟨b, off, none⟩ : Addr).add j) = some v := by
      intro j v hv
      have hj : j < L.length := by
        have := (List.getElem?_eq_some_iff.1 hv).1
        simpa [cellsB] using this
      rw [Addr.add_lit, World.cell?_alloc_past _ _ _ hb, hcell j hj, ← hv]
      simp [cellsB, List.getD, hj]
    have hr := run_copy_row (P := Try.prog) (w.alloc (.cells (madeCells #[.int .u8 0] L.length) 5)) 22 22 ty 5 w.heap.size 0 L.length L.length ⟨b, off, none⟩ L.length cap (madeCells #[.int .u8 0] L.length) 5 (cellsB L) Try.underlying22 size5
      (Go.Deep.blk_alloc_new _ _) (by simp [cellsB]) hsrc (by simp [cellsB, size_madeCells]) (by intro v hv; obtain ⟨_, _, rfl⟩ := List.mem_map.1 hv; rfl)
    rw [setRow_alloc] at hr
    have e : (madeCells #[Value.int .u8 0] L.length).toList.drop (0 + (cellsB L).length) = [] := List.drop_eq_nil_of_le (by simp [cellsB, size_madeCells])
    rw [e] at hr
    simpa [cellsB] using hr

theorem bys_copy (L : List Int) (w : World) (hm : L.length ≤ 1048576) (hby : ∀ i, 0 ≤ L.getD i 0 ∧ L.getD i 0 ≤ 255) : Bys (w.alloc (.cells (cellsB L).toArray 5)) (some ⟨w.heap.size, 0, none⟩) L.length L := by
  refine ⟨Nat.le_refl _, by unfold maxLen; omega, hby, fun e => (by cases e), fun _ => ⟨w.heap.size, 0, rfl, by simp, fun i hi => ?_⟩⟩
  rw [World.cell?_alloc_at _ _ _ _ rfl]
  simp [cellsB, List.getD, hi]
end Go.Proofs.Qxb6627995a
