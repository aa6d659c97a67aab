import Derived.Test.Qxb6627932aRows
import Derived.WalkKit
import Derived.WalkSpells
import Derived.WalkLawsBesides
import Derived.Deep.OwnRows
import Derived.Laws.CopyOwn
import Derived.Deep.RegionWith
namespace Go.Proofs.Qxb6627932a
open Go.RowKit

/-- Block b is a row of these cells of type t, none frozen. -/
def Blk (w : World) (b : Nat) (cs : Array Value) (t : TypeId) : Prop := w.heap[b]? = some (.cells cs t (0, 0))

theorem Blk.cell {w : World} {b : Nat} {cs : Array Value} {t : TypeId} (h : Blk w b cs t) (i : Nat) : w.cell? ⟨b, i, none⟩ = cs[i]? := by
  unfold Blk at h; simp [World.cell?, h]
theorem Blk.frozen {w : World} {b : Nat} {cs : Array Value} {t : TypeId} (h : Blk w b cs t) (i : Nat) : w.frozen? ⟨b, i, none⟩ = false := by
  unfold Blk at h; simp [World.frozen?, h]
theorem Blk.lt {w : World} {b : Nat} {cs : Array Value} {t : TypeId} (h : Blk w b cs t) : b < w.heap.size := (Array.getElem?_eq_some_iff.1 h).1
theorem Blk.below {w w' : World} {B b : Nat} {cs : Array Value} {t : TypeId} (h : Blk w b cs t) (hb : Below B w w') (hB : b < B) : Blk w' b cs t := (hb.block b hB).trans h
theorem Blk.alloc {w : World} {b : Nat} {cs : Array Value} {t : TypeId} (h : Blk w b cs t) (o : Obj) : Blk (w.alloc o) b cs t := (Go.Deep.blk_alloc_lt _ _ _ h.lt).trans h
theorem Blk.new (w : World) (cs : Array Value) (t : TypeId) : Blk (w.alloc (.cells cs t)) w.heap.size cs t := Go.Deep.blk_alloc_new _ _
theorem Blk.drew {w : World} {b : Nat} {cs : Array Value} {t : TypeId} (h : Blk w b cs t) : Blk w.drew b cs t := h
theorem Blk.set {w : World} {b : Nat} {cs : Array Value} {t : TypeId} (h : Blk w b cs t) (i : Nat) (v : Value) : Blk (w.setCell ⟨b, i, none⟩ v) b (cs.setIfInBounds i v) t := by
  unfold Blk at h ⊢; simp [World.setCell, Array.getElem?_modify, h]
theorem Blk.setOther {w : World} {b : Nat} {cs : Array Value} {t : TypeId} (h : Blk w b cs t) {a : Addr} (ha : b ≠ a.block) (v : Value) : Blk (w.setCell a v) b cs t := (Go.Deep.blk_setCell_other _ _ _ _ ha).trans h

theorem run_neq_ptr_other {P : Program} (w : World) {tp te : TypeId} {j : TypeInfo} {a b : Addr} {ca cb : Array Value} {ta tb : TypeId} (hp : P.underlying tp = some (.pointer te)) (hte : P.info? te = some j) (hsz : j.size ≠ 0)
    (hne : a ≠ b) (ha : w.heap[a.block]? = some (.cells ca ta (0, 0))) (hb : w.heap[b.block]? = some (.cells cb tb (0, 0))) :
    (binOp .neq tp (.pointer (some a)) (.pointer (some b))).run P w = .ok (.bool true) w := by
  have h : ∀ d : Nat, (Op.equalIn (d + 1) tp (.pointer (some a)) (.pointer (some b))).run P w = .ok false w := fun d => by
    simp [Op.equalIn, run_underlying hp, sizeOf, typeInfo, hte, hsz, run_sameAddr_other w hne ha hb]
  simp only [binOp]
  simp [Op.equal, Op.maxDepth, h 9999]

/-- A big.Int at the head of block p: not negative, one word n. -/
def BigI (w : World) (p : Nat) (n : Int) : Prop :=
  ∃ q, Blk w p #[.bool false, .slice (some ⟨q, 0, none⟩) 1 1] 58 ∧ Blk w q #[.int .u64 n] 67

/-- The same, every block of it from 'base' on and below 'top'. -/
def BigIn (w : World) (base top p : Nat) (n : Int) : Prop :=
  ∃ q, base ≤ p ∧ base ≤ q ∧ p < top ∧ q < top ∧ Blk w p #[.bool false, .slice (some ⟨q, 0, none⟩) 1 1] 58 ∧ Blk w q #[.int .u64 n] 67

theorem BigIn.big {w : World} {base top p : Nat} {n : Int} (h : BigIn w base top p n) : BigI w p n := by
  obtain ⟨q, _, _, _, _, h1, h2⟩ := h
  exact ⟨q, h1, h2⟩

theorem BigI.below {w w' : World} {p : Nat} {n : Int} (h : BigI w p n) (hb : Below w.heap.size w w') : BigI w' p n := by
  obtain ⟨q, h1, h2⟩ := h
  exact ⟨q, h1.below hb h1.lt, h2.below hb h2.lt⟩

set_option maxHeartbeats 400000 in
theorem pow10_any (w : World) : Calls Try.prog 25 #[.int .i32 3] w fun e w' => e = .returned (.int .i64 1000) ∧ w' = w := by
  go_enter Try.func25, Try.ntmps25
  go_wp2
  go_loop [3, 4] (fun t i => ∃ k : Nat, k ≤ 3 ∧ i = .int .i32 k ∧ t = .int .i64 ((10 ^ k : Nat) : Int)) (fun _ i => 3 - (intOf i).toNat)
  case atStart => exact ⟨0, by omega, rfl, rfl⟩
  case round =>
    obtain ⟨k, hk, rfl, rfl⟩ := hrel
    have h4 : k = 0 ∨ k = 1 ∨ k = 2 ∨ k = 3 := by omega
    rcases h4 with rfl | rfl | rfl | rfl
    · go_wp2
      go_round
      case rel => exact ⟨1, by omega, rfl, rfl⟩
      case measure => simp [intOf]
    · go_wp2
      go_round
      case rel => exact ⟨2, by omega, rfl, rfl⟩
      case measure => simp [intOf]
    · go_wp2
      go_round
      case rel => exact ⟨3, by omega, rfl, rfl⟩
      case measure => simp [intOf]
    · go_wp2
      go_ret
      exact ⟨rfl, rfl⟩

theorem low64_any (q c : Nat) (n : Int) (w : World) (h : w.cell? ⟨q, 0, none⟩ = some (.int .u64 n)) :
    Calls Try.prog 24 #[.slice (some ⟨q, 0, none⟩) 1 c] w fun e w' => e = .returned (.int .u64 n) ∧ w' = w := by
  go_enter Try.func24, Try.ntmps24
  go_wp2
  go_ret
  exact ⟨rfl, rfl⟩

theorem isInt64_any (p : Nat) (n : Int) (w : World) (h : BigI w p n) (h0 : 0 ≤ n) (h1 : n ≤ 1000000) :
    Calls Try.prog 8 #[.pointer (some ⟨p, 0, none⟩)] w fun e w' => e = .returned (.bool true) ∧ w' = w := by
  obtain ⟨q, b1, b2⟩ := h
  have c0 := b1.cell 0
  have c1 := b1.cell 1
  have c2 := b2.cell 0
  simp at c0 c1 c2
  clear b1 b2
  go_enter Try.func8, Try.ntmps8
  go_wp2_with (go_at_call 24; refine (low64_any q 1 n _ c2).mono ?_; rintro e w' ⟨rfl, rfl⟩)
  go_ret
  exact ⟨rfl, rfl⟩

theorem int64_any (p : Nat) (n : Int) (w : World) (h : BigI w p n) (h0 : 0 ≤ n) (h1 : n ≤ 1000000) :
    Calls Try.prog 9 #[.pointer (some ⟨p, 0, none⟩)] w fun e w' => e = .returned (.int .i64 n) ∧ w' = w := by
  obtain ⟨q, b1, b2⟩ := h
  have c0 := b1.cell 0
  have c1 := b1.cell 1
  have c2 := b2.cell 0
  simp at c0 c1 c2
  clear b1 b2
  go_enter Try.func9, Try.ntmps9
  go_wp2_with (go_at_call 24; refine (low64_any q 1 n _ c2).mono ?_; rintro e w' ⟨rfl, rfl⟩)
  go_ret
  exact ⟨rfl, rfl⟩

theorem sign_any (p : Nat) (n : Int) (w : World) (h : BigI w p n) :
    Calls Try.prog 30 #[.pointer (some ⟨p, 0, none⟩)] w fun e w' => e = .returned (.int .i64 1) ∧ w' = w := by
  obtain ⟨q, b1, b2⟩ := h
  have c0 := b1.cell 0
  have c1 := b1.cell 1
  have c2 := b2.cell 0
  simp at c0 c1 c2
  clear b1 b2
  go_enter Try.func30, Try.ntmps30
  go_wp2
  go_ret
  exact ⟨rfl, rfl⟩

theorem make_any (w : World) :
    Calls Try.prog 31 #[.slice none 0 0, .int .i64 1] w fun e w' => e = .returned (.slice (some ⟨w.heap.size, 0, none⟩) 1 1) ∧ w' = w.alloc (.cells #[.int .u64 0] 67) := by
  have hmk : ∀ w, (Instr.makeSlice 56 (.int .i64 1) (.int .i64 1)).run Try.prog w = .ok (.slice (some ⟨w.heap.size, 0, none⟩) 1 1) (w.alloc (.cells #[.int .u64 0] 67)) := fun _ => by kernel_rfl
  go_enter Try.func31, Try.ntmps31
  go_wp2
  go_ret
  exact ⟨rfl, rfl⟩

theorem setRow_alloc (w : World) (a b : Array Value) (t : TypeId) : (w.alloc (.cells a t)).setRow w.heap.size b = w.alloc (.cells b t) := by
  unfold World.setRow World.alloc
  congr 1
  apply Array.ext_getElem?
  intro i
  rw [Array.getElem?_modify, Array.getElem?_push, Array.getElem?_push]
  by_cases h : i = w.heap.size
  · subst h; simp
  · rw [if_neg (fun e => h e.symm), if_neg h, if_neg h]

theorem copy_one (q c ty : Nat) (n : Int) (w : World) (h : w.cell? ⟨q, 0, none⟩ = some (.int .u64 n)) :
    (Builtin.copy_ #[56, 56] ty #[.slice (some ⟨w.heap.size, 0, none⟩) 1 1, .slice (some ⟨q, 0, none⟩) 1 c]).run Try.prog (w.alloc (.cells #[.int .u64 0] 67)) = .ok (goInt 1) (w.alloc (.cells #[.int .u64 n] 67)) := by
  have hq := World.block_lt_of_cell? _ _ h
  have hsrc : ∀ (j : Nat) v, [Value.int .u64 n][j]? = some v → (w.alloc (.cells #[.int .u64 0] 67)).cell? ((⟨q, 0, none⟩ : Addr).add j) = some v := by
    intro j v hv
    match j, hv with
    | 0, hv =>
      simp at hv
      subst hv
      rw [Addr.add_lit]
      exact (((Below.refl w.heap.size w).alloc (Nat.le_refl _) _).cell (by exact hq)).trans h
  have hr := run_copy_row (P := Try.prog) (w.alloc (.cells #[.int .u64 0] 67)) 56 56 ty 67 w.heap.size 0 1 1 ⟨q, 0, none⟩ 1 c #[.int .u64 0] 67 [.int .u64 n] Try.underlying56 (by kernel_rfl) (Go.Deep.blk_alloc_new _ _) rfl hsrc (by simp) (by intro v hv; simp at hv; subst hv; rfl)
  rw [setRow_alloc] at hr
  simpa using hr

theorem set_any (q c : Nat) (n : Int) (w : World) (h : w.cell? ⟨q, 0, none⟩ = some (.int .u64 n)) :
    Calls Try.prog 29 #[.slice none 0 0, .slice (some ⟨q, 0, none⟩) 1 c] w fun e w' => e = .returned (.slice (some ⟨w.heap.size, 0, none⟩) 1 1) ∧ w' = w.alloc (.cells #[.int .u64 n] 67) := by
  have hcp := fun ty => copy_one q c ty n w h
  go_enter Try.func29, Try.ntmps29
  go_wp2_with fail
  refine (make_any _).mono ?_
  rintro e w' ⟨rfl, rfl⟩
  go_wp2_with fail
  go_ret
  exact ⟨rfl, rfl⟩

theorem info58 : (Try.prog.info? 58).map (fun i => (i.zero, i.size, i.bytes)) = some (some (.agg #[.bool false, .slice none 0 0]), 2, 32) := by kernel_rfl

theorem set_end (w : World) (z : Nat) (n : Int) (hz : Blk w z #[.bool false, .slice none 0 0] 58) :
    BigI (((w.setCell ⟨z, 1, none⟩ (.slice (some ⟨w.heap.size, 0, none⟩) 1 1)).setCell ⟨z, 0, none⟩ (.bool false)).alloc (.cells #[.int .u64 n] 67)).drew z n ∧
    Below z w (((w.setCell ⟨z, 1, none⟩ (.slice (some ⟨w.heap.size, 0, none⟩) 1 1)).setCell ⟨z, 0, none⟩ (.bool false)).alloc (.cells #[.int .u64 n] 67)).drew := by
  have hsz : ((w.setCell ⟨z, 1, none⟩ (.slice (some ⟨w.heap.size, 0, none⟩) 1 1)).setCell ⟨z, 0, none⟩ (.bool false)).heap.size = w.heap.size := by simp [World.setCell]
  refine ⟨⟨w.heap.size, (((hz.set 1 _).set 0 _).alloc _).drew, ?_⟩, ((((Below.refl z w).setCell (Nat.le_refl _) _).setCell (Nat.le_refl _) _).alloc ?_ _).drew⟩
  · have := Blk.new ((w.setCell ⟨z, 1, none⟩ (.slice (some ⟨w.heap.size, 0, none⟩) 1 1)).setCell ⟨z, 0, none⟩ (.bool false)) #[.int .u64 n] 67
    rw [hsz] at this
    exact this
  · rw [hsz]; exact Nat.le_of_lt hz.lt

set_option maxHeartbeats 1000000 in
theorem intSet_any (z p : Nat) (n : Int) (w : World) (hz : Blk w z #[.bool false, .slice none 0 0] 58) (hne : p < z) (h : BigI w p n) :
    Calls Try.prog 17 #[.pointer (some ⟨z, 0, none⟩), .pointer (some ⟨p, 0, none⟩)] w fun e w' => e = .returned (.pointer (some ⟨z, 0, none⟩)) ∧ BigI w' z n ∧ Below z w w' := by
  obtain ⟨q, b1, b2⟩ := h
  have c0 := b1.cell 0
  have c1 := b1.cell 1
  have c2 := b2.cell 0
  have z0 := hz.cell 0
  have z1 := hz.cell 1
  have f0 := hz.frozen 0
  have f1 := hz.frozen 1
  simp at c0 c1 c2 z0 z1
  obtain ⟨i0, hi, hz0, hz1, hz2⟩ := info_parts info58
  have hq : (binOp .neq 24 (.pointer (some ⟨z, 0, none⟩)) (.pointer (some ⟨p, 0, none⟩))).run Try.prog w = .ok (.bool true) w :=
    run_neq_ptr_other w Try.underlying24 hi (by rw [hz1]; decide) (by intro e; injection e; omega) hz b1
  have l1 := b1.lt
  have l2 := b2.lt
  have lz := hz.lt
  have hne2 : ¬ z = p := by omega
  have HZ : Hid (Blk w z #[.bool false, .slice none 0 0] 58) := hz
  clear b1 b2 hz hi hz0 hz1 hz2
  go_enter Try.func17, Try.ntmps17
  go_wp2_with fail
  go_region_with (go_at_call 29; refine (set_any q 1 n _ ?_).mono ?_; exact c2; rintro e w' ⟨rfl, rfl⟩)
  all_goals
    go_wp2
    go_ret
    exact ⟨rfl, set_end w z n HZ.out⟩

theorem ensure_any (b p : Nat) (e : Int) (w : World) (hb : Blk w b #[.pointer (some ⟨p, 0, none⟩), .int .i32 e] 26) :
    Calls Try.prog 16 #[.pointer (some ⟨b, 0, none⟩)] w fun r w' => r = .returned (.tuple #[]) ∧ w' = w := by
  have c0 := hb.cell 0
  simp at c0
  clear hb
  go_enter Try.func16, Try.ntmps16
  go_wp2
  go_end0
  exact ⟨rfl, rfl⟩

end Go.Proofs.Qxb6627932a
