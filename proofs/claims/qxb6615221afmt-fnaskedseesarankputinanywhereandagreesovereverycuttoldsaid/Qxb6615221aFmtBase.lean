import Derived.Test.Qxb6615221aFmtCards
import Derived.WalkKit
import Derived.WalkSpells
import Derived.WalkLawsBesides
import Derived.WalkSmall
import Derived.BigQuiet
import Derived.Deep.QuietTactic
import Derived.Deep.OwnRows
import Derived.Deep.Cut
import Derived.Deep.AppendLies
import Derived.Deep.RegionLaw
import Derived.Laws.CopyOwn
namespace Go.Proofs.Qxb6615221aFmt
open Go.RowKit
set_option linter.unusedVariables false

theorem hide {p : Prop} (h : p) : Hid p := h

/-- The slice at a reads as the bytes l. -/
def Rd (w : World) (a : Option Addr) (l : List Int) : Prop := ∀ i x, l[i]? = some x → ∃ g o, a = some ⟨g, o, none⟩ ∧ w.cell? ⟨g, o + i, none⟩ = some (.int .i64 x)
theorem Rd.nil (w : World) (a : Option Addr) : Rd w a [] := fun i x h => by simp at h
theorem Rd.below {w w' : World} {B : Nat} {a : Option Addr} {l : List Int} (h : Rd w a l) (hb : Below B w w') (hB : w.heap.size ≤ B) : Rd w' a l := by
  intro i x hi
  obtain ⟨g, o, e, hc⟩ := h i x hi
  have hg := World.block_lt_of_cell? w ⟨g, o + i, none⟩ hc
  simp only at hg
  exact ⟨g, o, e, (hb.cell (p := ⟨g, o + i, none⟩) (by simp only; omega)).trans hc⟩
theorem Rd.one {w : World} {a : Option Addr} {l : List Int} (h : Rd w a l) (hl : 0 < l.length) : ∃ b o, a = some ⟨b, o, none⟩ ∧ ∀ i x, l[i]? = some x → w.cell? ⟨b, o + i, none⟩ = some (.int .i64 x) := by
  obtain ⟨b, o, rfl, _⟩ := h 0 _ (List.getElem?_eq_getElem hl)
  refine ⟨b, o, rfl, fun i x hi => ?_⟩
  obtain ⟨b', o', e, hc⟩ := h i x hi
  simp only [Option.some.injEq, Addr.mk.injEq] at e
  obtain ⟨rfl, rfl, _⟩ := e
  exact hc
theorem Rd.drop {w : World} {b o : Nat} {l : List Int} (h : Rd w (some ⟨b, o, none⟩) l) (k : Nat) : Rd w (some ⟨b, o + k, none⟩) (l.drop k) := by
  intro i x hi
  rw [List.getElem?_drop] at hi
  obtain ⟨g, o', e, hc⟩ := h (k + i) x hi
  simp only [Option.some.injEq, Addr.mk.injEq] at e
  obtain ⟨rfl, rfl, _⟩ := e
  exact ⟨b, o + k, rfl, by rw [Nat.add_assoc]; exact hc⟩

def ints (l : List Int) : List Value := l.map (.int .i64)
theorem ints_length (l : List Int) : (ints l).length = l.length := by simp [ints]
theorem ints_one (l : List Int) : ∀ u ∈ ints l, u.oneCell' = true := by
  intro u hu
  obtain ⟨_, _, rfl⟩ := List.mem_map.1 hu
  rfl
theorem ints_get {l : List Int} {i : Nat} {x : Int} (h : l[i]? = some x) : (ints l)[i]? = some (.int .i64 x) := by simp [ints, h]
theorem ints_append (l m : List Int) : ints l ++ ints m = ints (l ++ m) := by simp [ints]
theorem one_cell (W : World) (u : Value) (t : TypeId) : ∀ j x, [u][j]? = some x → (W.alloc (.cells #[u] t)).cell? ((⟨W.heap.size, 0, none⟩ : Addr).add j) = some x := by
  intro j x hj
  match j, hj with
  | 0, hj => simp at hj; subst hj; simp [Addr.add]

theorem info3 : (Tryf.prog.info? 3).map (fun i => (i.zero, i.size, i.bytes)) = some (some (.int .i64 0), 1, 8) := by kernel_rfl
theorem info5 : (Tryf.prog.info? 5).map (fun i => (i.zero, i.size, i.bytes)) = some (some (.int .u8 0), 1, 1) := by kernel_rfl
theorem info4 : (Tryf.prog.info? 4).map (fun i => (i.zero, i.size, i.bytes)) = some (some (.bool false), 1, 1) := by kernel_rfl
theorem info40 : (Tryf.prog.info? 40).map (fun i => (i.zero, i.size, i.bytes)) = some (some (.agg #[.int .i64 0, .int .i64 0, .bool false, .bool false]), 4, 24) := by kernel_rfl

theorem Rd.owned {w : World} {base n g cap : Nat} {l : List Int} (h : w.ownsRow base 3 1 (.slice (some ⟨g, 0, none⟩) n cap) n (ints l)) : Rd w (some ⟨g, 0, none⟩) l := by
  intro i x hi
  refine ⟨g, 0, rfl, ?_⟩
  have := h.cells rfl i _ (ints_get hi)
  rw [Addr.add_lit] at this
  exact this
/-- The cells to be appended, in a later world. -/
theorem Rd.news {w : World} {a : Option Addr} {l : List Int} (h : Rd w a l) : ∀ ad, a = some ad → ∀ j u, (ints l)[j]? = some u → w.cell? (ad.add j) = some u := by
  intro ad e j u hu
  have hj : j < l.length := by have := (List.getElem?_eq_some_iff.1 hu).1; rwa [ints_length] at this
  have hx := ints_get (List.getElem?_eq_getElem hj)
  rw [hx] at hu
  obtain ⟨g, o, e', hc⟩ := h j _ (List.getElem?_eq_getElem hj)
  rw [e] at e'
  obtain rfl := Option.some.inj e'
  rw [Addr.add_lit, hc, hu]


/-- Block b is a row of cells, none frozen. -/
def Blk (w : World) (b : Nat) (cs : List Value) (t : TypeId) : Prop := w.heap[b]? = some (.cells cs.toArray t (0, 0))
theorem Blk.cell {w : World} {b : Nat} {cs : List Value} {t : TypeId} (h : Blk w b cs t) (i : Nat) (u : Value) (hu : cs[i]? = some u) : w.cell? ⟨b, i, none⟩ = some u := by
  unfold Blk at h
  simp [World.cell?, h, hu]
theorem Blk.frozen {w : World} {b : Nat} {cs : List Value} {t : TypeId} (h : Blk w b cs t) (i : Nat) : w.frozen? ⟨b, i, none⟩ = false := by
  unfold Blk at h
  simp [World.frozen?, h]
theorem Blk.lt {w : World} {b : Nat} {cs : List Value} {t : TypeId} (h : Blk w b cs t) : b < w.heap.size := (Array.getElem?_eq_some_iff.1 h).1
theorem Blk.set {w : World} {b : Nat} {cs : List Value} {t : TypeId} (h : Blk w b cs t) (i : Nat) (u : Value) : Blk (w.setCell ⟨b, i, none⟩ u) b (cs.set i u) t := by
  unfold Blk at *
  simp [World.setCell, Array.getElem?_modify, h]
theorem Blk.other {w : World} {b : Nat} {cs : List Value} {t : TypeId} (h : Blk w b cs t) (a : Addr) (u : Value) (hne : a.block ≠ b) : Blk (w.setCell a u) b cs t := by
  unfold Blk at *
  rw [Below.heap_setCell _ _ _ _ (Ne.symm hne)]; exact h
theorem Blk.alloc {w : World} {b : Nat} {cs : List Value} {t : TypeId} (h : Blk w b cs t) (o : Obj) : Blk (w.alloc o) b cs t := by
  have := h.lt
  unfold Blk at *
  rw [Below.heap_alloc _ _ _ this]; exact h
theorem Blk.below {w w' : World} {b : Nat} {cs : List Value} {t : TypeId} (h : Blk w b cs t) (hb : Below w.heap.size w w') : Blk w' b cs t := by
  have := h.lt
  unfold Blk at *
  rw [hb.block b this]; exact h
theorem Blk.made (w : World) (v : Value) (n : Nat) (t : TypeId) : Blk (w.alloc (.cells (madeCells #[v] n) t)) w.heap.size (madeCells #[v] n).toList t := by
  unfold Blk
  simpa using heap_alloc_new w (.cells (madeCells #[v] n) t)

/-! ### the small functions -/
theorem bytes_any (x0 x1 x2 x4 x5 x6 : Int) (a : Option Addr) (n c : Nat) (w : World) (hn : n ≤ maxLen) :
    Calls Tryf.prog 4 #[.int .i64 x0, .int .i64 x1, .int .i64 x2, .slice a n c, .int .i64 x4, .int .i64 x5, .int .i64 x6] w fun e w' => e = .returned (.bool (decide ((n : Int) ≤ 1048576))) ∧ w' = w := by
  unfold maxLen at hn
  by_cases h : (n : Int) ≤ 1048576
  · go_enter Tryf.func4, Tryf.ntmps4
    go_wp2
    go_ret
    exact ⟨by simp [h], rfl⟩
  · go_enter Tryf.func4, Tryf.ntmps4
    go_wp2
    go_ret
    exact ⟨by simp [h], rfl⟩

def Dom (rank n d : Int) : Prop := 2 ≤ n ∧ n ≤ 65443 ∧ 0 ≤ rank ∧ rank < n ∧ 1 ≤ d ∧ d ≤ 254
instance (rank n d : Int) : Decidable (Dom rank n d) := by unfold Dom; infer_instance

theorem dom_any (rank n d : Int) (w : World) :
    Calls Tryf.prog 5 #[.int .i64 rank, .int .i64 n, .int .i64 d] w fun e w' => e = .returned (.bool (decide (Dom rank n d))) ∧ w' = w := by
  by_cases h1 : 2 ≤ n <;> by_cases h2 : n ≤ 65443 <;> by_cases h3 : 0 ≤ rank <;> by_cases h4 : rank < n <;> by_cases h5 : 1 ≤ d <;> by_cases h6 : d ≤ 254
  all_goals
    go_enter Tryf.func5, Tryf.ntmps5
    go_wp2
    go_ret
    exact ⟨by first | (rw [decide_eq_false (by unfold Dom; omega)]; rfl) | (rw [decide_eq_true (by unfold Dom; omega)]; rfl), rfl⟩
end Go.Proofs.Qxb6615221aFmt
