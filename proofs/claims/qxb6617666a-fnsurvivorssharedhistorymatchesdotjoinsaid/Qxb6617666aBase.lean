import Derived.Test.Qxb6617666aRows
import Derived.Test.Qxb6617666aPlain
import Derived.WalkSmall
import Derived.BigQuiet
import Derived.Deep.QuietTactic
import Derived.Deep.LoopGhost
import Derived.Deep.OwnRows
import Derived.LaidEqlPtr
namespace Go.Proofs.Qxb6617666a
open Go.RowKit
set_option linter.unusedVariables false

theorem hide {p : Prop} (h : p) : Hid p := h

/-- Block b is a row of cells, none frozen. -/
def Blk (w : World) (b : Nat) (cs : List Value) (t : TypeId) : Prop := w.heap[b]? = some (.cells cs.toArray t (0, 0))

theorem Blk.cell {w : World} {b : Nat} {cs : List Value} {t : TypeId} (h : Blk w b cs t) (i : Nat) (u : Value) (hu : cs[i]? = some u) : w.cell? ⟨b, i, none⟩ = some u := by
  unfold Blk at h
  simp [World.cell?, h, hu]
theorem Blk.frozen {w : World} {b : Nat} {cs : List Value} {t : TypeId} (h : Blk w b cs t) (i : Nat) : w.frozen? ⟨b, i, none⟩ = false := by
  unfold Blk at h
  simp [World.frozen?, h]
theorem Blk.lt {w : World} {b : Nat} {cs : List Value} {t : TypeId} (h : Blk w b cs t) : b < w.heap.size := (Array.getElem?_eq_some_iff.1 h).1
theorem Blk.set {w : World} {b : Nat} {cs : List Value} {t : TypeId} (h : Blk w b cs t) (i : Nat) (u : Value) : Blk (w.setCell ⟨b, i, none⟩ u) b (cs.set i u) t := by
  unfold Blk at *
  simp [World.setCell, Array.getElem?_modify, h]
theorem Blk.other {w : World} {b : Nat} {cs : List Value} {t : TypeId} (h : Blk w b cs t) (a : Addr) (u : Value) (hne : a.block ≠ b) : Blk (w.setCell a u) b cs t := by
  unfold Blk at *
  rw [Below.heap_setCell _ _ _ _ (Ne.symm hne)]; exact h
theorem Blk.drew {w : World} {b : Nat} {cs : List Value} {t : TypeId} (h : Blk w b cs t) : Blk w.drew b cs t := h
theorem Blk.alloc {w : World} {b : Nat} {cs : List Value} {t : TypeId} (h : Blk w b cs t) (o : Obj) : Blk (w.alloc o) b cs t := by
  have := h.lt
  unfold Blk at *
  rw [Below.heap_alloc _ _ _ this]; exact h
theorem Blk.below {w w' : World} {b B : Nat} {cs : List Value} {t : TypeId} (h : Blk w b cs t) (hb : Below B w w') (hB : b < B) : Blk w' b cs t := by
  unfold Blk at *
  rw [hb.block b hB]; exact h
theorem Blk.new (w : World) (cs : List Value) (t : TypeId) : Blk (w.alloc (.cells cs.toArray t)) w.heap.size cs t := heap_alloc_new w _

/-! ### slices of strings -/
/-- The slice at a reads as l. -/
def Rd (w : World) (a : Option Addr) (l : List ByteArray) : Prop := ∀ i x, l[i]? = some x → ∃ g o, a = some ⟨g, o, none⟩ ∧ w.cell? ⟨g, o + i, none⟩ = some (.string x)
theorem Rd.nil (w : World) (a : Option Addr) : Rd w a [] := fun i x h => by simp at h
theorem Rd.below {w w' : World} {B : Nat} {a : Option Addr} {l : List ByteArray} (h : Rd w a l) (hb : Below B w w') (hB : w.heap.size ≤ B) : Rd w' a l := by
  intro i x hi
  obtain ⟨g, o, e, hc⟩ := h i x hi
  have hg := World.block_lt_of_cell? w ⟨g, o + i, none⟩ hc
  simp only at hg
  exact ⟨g, o, e, (hb.cell (p := ⟨g, o + i, none⟩) (by simp only; omega)).trans hc⟩
theorem Rd.drewN {w : World} {a : Option Addr} {l : List ByteArray} (h : Rd w a l) (n : Nat) : Rd (w.drewN n) a l := h
theorem Rd.one {w : World} {a : Option Addr} {l : List ByteArray} (h : Rd w a l) (hl : 0 < l.length) : ∃ b o, a = some ⟨b, o, none⟩ ∧ ∀ i x, l[i]? = some x → w.cell? ⟨b, o + i, none⟩ = some (.string x) := by
  obtain ⟨b, o, rfl, _⟩ := h 0 _ (List.getElem?_eq_getElem hl)
  refine ⟨b, o, rfl, fun i x hi => ?_⟩
  obtain ⟨b', o', e, hc⟩ := h i x hi
  simp only [Option.some.injEq, Addr.mk.injEq] at e
  obtain ⟨rfl, rfl, _⟩ := e
  exact hc
/-- One element, in the walk's spelling. -/
theorem Rd.at {w : World} {a : Option Addr} {l : List ByteArray} (h : Rd w a l) {i : Nat} (hi : i < l.length) : ∃ b o, a = some ⟨b, o, none⟩ ∧ w.cell? ⟨b, o + i, none⟩ = some (.string (l.getD i ByteArray.empty)) := by
  obtain ⟨b, o, e, hc⟩ := h i _ (List.getElem?_eq_getElem hi)
  refine ⟨b, o, e, ?_⟩
  rw [hc]
  simp [List.getD, hi]

/-! ### linked lists -/
/-- The list at u holds l, newest first. -/
def Lst (w : World) : Option Addr → List ByteArray → Prop
  | u, [] => u = none
  | u, x :: l => ∃ b o v cs, u = some ⟨b, o, none⟩ ∧ Blk w b cs 43 ∧ cs[o]? = some (.string x) ∧ cs[o + 1]? = some (.pointer v) ∧ cs[o + 2]? = some (.int .i64 ((l.length + 1 : Nat) : Int)) ∧ Lst w v l

theorem Lst.below {B : Nat} {w w' : World} (hb : Below B w w') (hB : w.heap.size ≤ B) : ∀ (l : List ByteArray) (u : Option Addr), Lst w u l → Lst w' u l
  | [], _, h => h
  | x :: l, u, ⟨b, o, v, cs, e, hk, h1, h2, h3, hl⟩ => ⟨b, o, v, cs, e, hk.below hb (Nat.lt_of_lt_of_le hk.lt hB), h1, h2, h3, Lst.below hb hB l v hl⟩
/-- The list stands while no block that it lies in turns. -/
theorem Lst.but {g : Nat} {w w' : World} (hb : ∀ k, k ≠ g → k < w.heap.size → w'.heap[k]? = w.heap[k]?) (hB : g = w.heap.size) : ∀ (l : List ByteArray) (u : Option Addr), Lst w u l → Lst w' u l
  | [], _, h => h
  | x :: l, u, ⟨b, o, v, cs, e, hk, h1, h2, h3, hl⟩ => ⟨b, o, v, cs, e, by have := hk.lt; unfold Blk at *; rw [hb b (by omega) this]; exact hk, h1, h2, h3, Lst.but hb hB l v hl⟩
theorem Lst.det {w : World} : ∀ (l m : List ByteArray) (u : Option Addr), Lst w u l → Lst w u m → l = m
  | [], [], _, _, _ => rfl
  | [], y :: m, u, h, ⟨b, o, v, cs, e, _⟩ => by rw [show u = none from h] at e; cases e
  | x :: l, [], u, ⟨b, o, v, cs, e, _⟩, h => by rw [show u = none from h] at e; cases e
  | x :: l, y :: m, u, ⟨b, o, v, cs, e, hk, h1, h2, h3, hl⟩, ⟨b', o', v', cs', e', hk', h1', h2', h3', hl'⟩ => by
    rw [e] at e'
    simp only [Option.some.injEq, Addr.mk.injEq] at e'
    obtain ⟨rfl, rfl, _⟩ := e'
    unfold Blk at hk hk'
    rw [hk] at hk'
    simp only [Option.some.injEq, Obj.cells.injEq] at hk'
    obtain ⟨hcc, _, _⟩ := hk'
    have hcc' := congrArg Array.toList hcc
    simp only at hcc'
    subst hcc'
    rw [h1] at h1'
    rw [h2] at h2'
    simp only [Option.some.injEq, Value.string.injEq, Value.pointer.injEq] at h1' h2'
    subst h1' h2'
    rw [Lst.det l m v hl hl']
/-- A store into a block that holds no nodes. -/
theorem Lst.setOther {w : World} {g : Nat} {ds : List Value} {t : TypeId} (hg : Blk w g ds t) (ht : t ≠ 43) (i : Nat) (x : Value) : ∀ (l : List ByteArray) (u : Option Addr), Lst w u l → Lst (w.setCell ⟨g, i, none⟩ x) u l
  | [], _, h => h
  | y :: l, u, ⟨b, o, v, cs, e, hk, h1, h2, h3, hl⟩ => by
    refine ⟨b, o, v, cs, e, hk.other _ _ ?_, h1, h2, h3, Lst.setOther hg ht i x l v hl⟩
    intro hbg
    simp only at hbg
    subst hbg
    unfold Blk at hg hk
    rw [hg] at hk
    simp at hk
    exact ht hk.2
/-- A node made at the heap's end. -/
theorem Lst.cons {w : World} {u : Option Addr} {l : List ByteArray} (h : Lst w u l) (x : ByteArray) : Lst (w.alloc (.cells #[.string x, .pointer u, .int .i64 ((l.length + 1 : Nat) : Int)] 43)) (some ⟨w.heap.size, 0, none⟩) (x :: l) :=
  ⟨w.heap.size, 0, u, [.string x, .pointer u, .int .i64 ((l.length + 1 : Nat) : Int)], rfl, Blk.new w _ _, rfl, rfl, rfl, Lst.below ((Below.refl w.heap.size w).alloc (Nat.le_refl _) _) (Nat.le_refl _) l u h⟩

/-- The head's cells, in the walk's spelling. -/
theorem Lst.head {w : World} {u : Option Addr} {l : List ByteArray} (h : Lst w u l) (hl : 0 < l.length) : ∃ b o v, u = some ⟨b, o, none⟩ ∧ w.cell? ⟨b, o, none⟩ = some (.string (l.getD 0 ByteArray.empty)) ∧ w.cell? ⟨b, o + 1, none⟩ = some (.pointer v) ∧ w.cell? ⟨b, o + 2, none⟩ = some (.int .i64 (l.length : Int)) ∧ Lst w v (l.drop 1) ∧ ∃ cs t, w.heap[b]? = some (.cells cs t (0, 0)) := by
  cases l with
  | nil => simp at hl
  | cons x l =>
    obtain ⟨b, o, v, cs, e, hk, h1, h2, h3, hl⟩ := h
    exact ⟨b, o, v, e, hk.cell _ _ h1, hk.cell _ _ h2, hk.cell _ _ h3, by simpa using hl, _, _, hk⟩
end Go.Proofs.Qxb6617666a
