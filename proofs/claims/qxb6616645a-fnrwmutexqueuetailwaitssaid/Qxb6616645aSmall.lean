import Derived.Test.Qxb6616645aRows
import Derived.Test.Qxb6616645aLocks
import Derived.WalkKit
import Derived.WalkSpells
import Derived.BigQuiet
import Derived.Deep.QuietTactic
namespace Go.Proofs.Qxb6616645a
open Go.RowKit

/-- Block b is a row of cells, none frozen. -/
def Blk (w : World) (b : Nat) (cs : List Value) (t : TypeId) : Prop := w.heap[b]? = some (.cells cs.toArray t (0, 0))

theorem Blk.cell {w : World} {b : Nat} {cs : List Value} {t : TypeId} (h : Blk w b cs t) (i : Nat) (u : Value) (hu : cs[i]? = some u) : w.cell? ⟨b, i, none⟩ = some u := by
  unfold Blk at h
  simp [World.cell?, h, hu]
theorem Blk.frozen {w : World} {b : Nat} {cs : List Value} {t : TypeId} (h : Blk w b cs t) (i : Nat) : w.frozen? ⟨b, i, none⟩ = false := by
  unfold Blk at h
  simp [World.frozen?, h]
theorem Blk.lt {w : World} {b : Nat} {cs : List Value} {t : TypeId} (h : Blk w b cs t) : b < w.heap.size := (Array.getElem?_eq_some_iff.1 h).1
theorem Blk.set {w : World} {b : Nat} {cs : List Value} {t : TypeId} (h : Blk w b cs t) (i : Nat) (u : Value) : Blk (w.setCell ⟨b, i, none⟩ u) b (cs.set i u) t := by
  unfold Blk at *
  simp [World.setCell, Array.getElem?_modify, h]
theorem Blk.other {w : World} {b : Nat} {cs : List Value} {t : TypeId} (h : Blk w b cs t) (a : Addr) (u : Value) (hne : a.block ≠ b) : Blk (w.setCell a u) b cs t := by
  unfold Blk at *
  rw [Below.heap_setCell _ _ _ _ (Ne.symm hne)]; exact h
theorem Blk.drew {w : World} {b : Nat} {cs : List Value} {t : TypeId} (h : Blk w b cs t) : Blk w.drew b cs t := h
theorem Blk.alloc {w : World} {b : Nat} {cs : List Value} {t : TypeId} (h : Blk w b cs t) (o : Obj) : Blk (w.alloc o) b cs t := by
  have := h.lt
  unfold Blk at *
  rw [Below.heap_alloc _ _ _ this]; exact h

/-! ### the bounds' functions -/
theorem bytes5_any (r k : Int) (a : Option Addr) (n c : Nat) (w : World) (hn : n ≤ maxLen) :
    Calls Try.prog 5 #[.int .i64 r, .slice a n c, .int .i64 k] w fun e w' => e = .returned (.bool (decide ((n : Int) ≤ 1048576))) ∧ w' = w := by
  unfold maxLen at hn
  by_cases h : (n : Int) ≤ 1048576
  · go_enter Try.func5, Try.ntmps5
    go_wp2
    go_ret
    exact ⟨by simp [h], rfl⟩
  · go_enter Try.func5, Try.ntmps5
    go_wp2
    go_ret
    exact ⟨by simp [h], rfl⟩

theorem bytes12_any (r : Int) (a : Option Addr) (n c : Nat) (w : World) (hn : n ≤ maxLen) :
    Calls Try.prog 12 #[.int .i64 r, .slice a n c] w fun e w' => e = .returned (.bool (decide ((n : Int) ≤ 1048576))) ∧ w' = w := by
  unfold maxLen at hn
  by_cases h : (n : Int) ≤ 1048576
  · go_enter Try.func12, Try.ntmps12
    go_wp2
    go_ret
    exact ⟨by simp [h], rfl⟩
  · go_enter Try.func12, Try.ntmps12
    go_wp2
    go_ret
    exact ⟨by simp [h], rfl⟩

theorem readers_any (b : Nat) (c0 c1 c3 c4 : Value) (r : Int) (w : World) (h : Blk w b [c0, c1, .int .i64 r, c3, c4] 41) :
    Calls Try.prog 8 #[.pointer (some ⟨b, 0, none⟩)] w fun e w' => e = .returned (.int .i64 r) ∧ w' = w := by
  have h2 := h.cell 2 _ rfl
  clear h
  go_enter Try.func8, Try.ntmps8
  go_wp2
  go_ret
  exact ⟨rfl, rfl⟩

theorem writing_any (b : Nat) (c0 c1 c2 c4 : Value) (x : Bool) (w : World) (h : Blk w b [c0, c1, c2, .bool x, c4] 41) :
    Calls Try.prog 9 #[.pointer (some ⟨b, 0, none⟩)] w fun e w' => e = .returned (.bool x) ∧ w' = w := by
  have h3 := h.cell 3 _ rfl
  clear h
  go_enter Try.func9, Try.ntmps9
  go_wp2
  go_ret
  exact ⟨rfl, rfl⟩

theorem free_any (b : Nat) (c0 c1 c4 : Value) (r : Int) (x y : Bool) (w : World) (h : Blk w b [c0, c1, .int .i64 r, .bool x, c4] 41) :
    Calls Try.prog 19 #[.pointer (some ⟨b, 0, none⟩), .bool y] w fun e w' => e = .returned (.bool (!x && (!y || r == 0))) ∧ w' = w := by
  have h2 := h.cell 2 _ rfl
  have h3 := h.cell 3 _ rfl
  clear h
  cases x <;> cases y
  all_goals
    go_enter Try.func19, Try.ntmps19
    go_wp2
    go_ret
    exact ⟨by simp, rfl⟩

theorem hold_true (b : Nat) (c0 c1 c2 c4 : Value) (x : Bool) (w : World) (h : Blk w b [c0, c1, c2, .bool x, c4] 41) :
    Calls Try.prog 21 #[.pointer (some ⟨b, 0, none⟩), .bool true] w fun e w' => e = .returned (.tuple #[]) ∧ w' = w.setCell ⟨b, 3, none⟩ (.bool true) := by
  have h3 := h.cell 3 _ rfl
  have f3 := h.frozen 3
  clear h
  go_enter Try.func21, Try.ntmps21
  go_wp2
  go_end0
  exact ⟨rfl, rfl⟩

end Go.Proofs.Qxb6616645a
