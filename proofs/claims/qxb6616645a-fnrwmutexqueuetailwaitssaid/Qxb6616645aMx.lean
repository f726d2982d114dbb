import Derived.Test.Qxb6616645aQueue
import Derived.Conc.SmallLaws
import Derived.Deep.AppendLies
namespace Go.Proofs.Qxb6616645a
open Go.RowKit

theorem info42 : (Try.prog.info? 42).map (fun i => (i.zero, i.size, i.bytes)) = some (some (.pointer none), 1, 8) := by kernel_rfl
theorem info32 : (Try.prog.info? 32).map (fun i => (i.zero, i.size, i.bytes)) = some (some (.agg #[]), 0, 0) := by kernel_rfl
theorem mk0 (w : World) : (Instr.makeChan 43 (.int .i64 0)).run Try.prog w = .ok (.chan (some w.heap.size)) (w.alloc (.chan 0 #[] false 0 0 false)) := by
  obtain ⟨i, hi, _, _, hb⟩ := info_parts info32
  simpa using Go.Conc.run_makeChan (P := Try.prog) (w := w) Try.underlying43 hi .i64 0 (by omega) (by rw [hb]; omega)

/-- Block c is an open channel. -/
def Opn (w : World) (c : Nat) : Prop := ∃ cp buf s r tm, w.heap[c]? = some (.chan cp buf false s r tm)
theorem Opn.lt {w : World} {c : Nat} (h : Opn w c) : c < w.heap.size := by
  obtain ⟨_, _, _, _, _, h⟩ := h
  exact (Array.getElem?_eq_some_iff.1 h).1

def ptrs (ps : List (Nat × Nat)) : List Value := ps.map fun q => .pointer (some ⟨q.1, 0, none⟩)
theorem ptrs_one (ps : List (Nat × Nat)) : ∀ u ∈ ptrs ps, u.oneCell' = true := by
  intro u hu
  obtain ⟨_, _, rfl⟩ := List.mem_map.1 hu
  rfl

/-- What of the queue lies beside the mutex's own block: the row of pointers, the nodes, the head's channel, all among the blocks from lo to hi. -/
structure Que (w : World) (lo hi : Nat) (v : Value) (n : Nat) (xs : Nat → Bool) (ps : List (Nat × Nat)) (x : Bool) : Prop where
  len : ps.length = n
  own : w.ownsRow lo 42 1 v n (ptrs ps)
  top : ∀ g, v.ownBlock = some g → g < hi
  node : ∀ i q, ps[i]? = some q → Blk w q.1 [.bool (xs i), .chan (some q.2)] 45 ∧ lo ≤ q.1 ∧ q.1 < hi
  opn : x = false → ∀ q, ps[0]? = some q → lo ≤ q.2 ∧ q.2 < hi ∧ Opn w q.2

/-- A mutex in memory. -/
structure Mx (w : World) (bm hi : Nat) (r : Int) (wr : Bool) (n : Nat) (xs : Nat → Bool) : Prop where
  lt : bm < hi
  le : hi ≤ w.heap.size
  ex : ∃ v ps, Blk w bm [.int .i32 0, .int .u32 0, .int .i64 r, .bool wr, v] 41 ∧ Que w (bm + 1) hi v n xs ps wr

/-- The queue stands while all blocks between lo and hi stand. -/
theorem Que.same {w w' : World} {lo hi : Nat} {v : Value} {n : Nat} {xs : Nat → Bool} {ps : List (Nat × Nat)} {x : Bool} (h : Que w lo hi v n xs ps x) (hs : ∀ k, lo ≤ k → k < hi → w'.heap[k]? = w.heap[k]?) : Que w' lo hi v n xs ps x := by
  refine ⟨h.len, ⟨h.own.1, ?_⟩, h.top, fun i q hq => ?_, fun hx q hq => ?_⟩
  · rcases h.own.2 with h1 | ⟨g, cap, cur, rfl, hg, hh, rest⟩
    · exact .inl h1
    · exact .inr ⟨g, cap, cur, rfl, hg, by rw [hs g hg (h.top g rfl)]; exact hh, rest⟩
  · obtain ⟨h1, h2, h3⟩ := h.node i q hq
    exact ⟨by unfold Blk at *; rw [hs _ h2 h3]; exact h1, h2, h3⟩
  · obtain ⟨h1, h2, h3⟩ := h.opn hx q hq
    exact ⟨h1, h2, by unfold Opn at *; rw [hs _ h1 h2]; exact h3⟩

/-- More room above. -/
theorem Que.up {w : World} {lo hi hi' : Nat} {v : Value} {n : Nat} {xs : Nat → Bool} {ps : List (Nat × Nat)} {x : Bool} (h : Que w lo hi v n xs ps x) (hh : hi ≤ hi') : Que w lo hi' v n xs ps x :=
  ⟨h.len, h.own, fun g hg => Nat.lt_of_lt_of_le (h.top g hg) hh, fun i q hq => let ⟨a, b, c⟩ := h.node i q hq; ⟨a, b, Nat.lt_of_lt_of_le c hh⟩, fun hx q hq => let ⟨a, b, c⟩ := h.opn hx q hq; ⟨a, Nat.lt_of_lt_of_le b hh, c⟩⟩

/-- One wait more: its channel, its node and the one-element slice laid, then the append. -/
theorem Que.push {w w1 : World} {lo : Nat} {v : Value} {n g cap : Nat} {xs : Nat → Bool} {ps : List (Nat × Nat)} {x : Bool} (h : Que w lo w.heap.size v n xs ps x) (hlo : lo ≤ w.heap.size)
    (hown : w1.ownsRow lo 42 1 (.slice (some ⟨g, 0, none⟩) (n + 1) cap) (n + 1) (ptrs ps ++ [.pointer (some ⟨w.heap.size + 1, 0, none⟩)]))
    (hgrow : (((w.alloc (.chan 0 #[] false 0 0 false)).alloc (.cells #[.bool (xs n), .chan (some w.heap.size)] 45)).alloc (.cells #[.pointer (some ⟨w.heap.size + 1, 0, none⟩)] 42)).drew.grownBy w1 v.ownBlock)
    (hlt : g < w1.heap.size) :
    Que w1 lo w1.heap.size (.slice (some ⟨g, 0, none⟩) (n + 1) cap) (n + 1) xs (ps ++ [(w.heap.size + 1, w.heap.size)]) x := by
  have hsz := hgrow.size
  simp at hsz
  have hvb : ∀ k, v.ownBlock = some k → k < w.heap.size ∧ ∃ cur, w.heap[k]? = some (.cells cur 42 (0, 0)) := by
    intro k hk
    rcases h.own.2 with ⟨rfl, _⟩ | ⟨g, cap, cur, rfl, hg, hh, rest⟩
    · simp [Value.ownBlock] at hk
    · simp [Value.ownBlock] at hk
      subst hk
      exact ⟨(Array.getElem?_eq_some_iff.1 hh).1, cur, hh⟩
  have hold : ∀ k, k < w.heap.size → some k ≠ v.ownBlock → w1.heap[k]? = w.heap[k]? := by
    intro k hk hne
    rw [hgrow.block k (by simp; omega) hne]
    show (((w.alloc _).alloc _).alloc _).heap[k]? = _
    rw [Below.heap_alloc _ _ _ (by simp; omega), Below.heap_alloc _ _ _ (by simp; omega), Below.heap_alloc _ _ _ hk]
  have hnew : ∀ k, w.heap.size ≤ k → some k ≠ v.ownBlock := by
    intro k hk e
    have := (hvb k e.symm).1
    omega
  have hc : w1.heap[w.heap.size]? = some (.chan 0 #[] false 0 0 false) := by
    rw [hgrow.block _ (by simp; omega) (hnew _ (Nat.le_refl _))]
    show (((w.alloc _).alloc _).alloc _).heap[w.heap.size]? = _
    rw [Below.heap_alloc _ _ _ (by simp; omega), Below.heap_alloc _ _ _ (by simp)]
    exact heap_alloc_new w _
  have hn : w1.heap[w.heap.size + 1]? = some (.cells #[.bool (xs n), .chan (some w.heap.size)] 45) := by
    rw [hgrow.block _ (by simp) (hnew _ (by omega))]
    show (((w.alloc _).alloc _).alloc _).heap[w.heap.size + 1]? = _
    rw [Below.heap_alloc _ _ _ (by simp)]
    have := heap_alloc_new (w.alloc (.chan 0 #[] false 0 0 false)) (.cells #[.bool (xs n), .chan (some w.heap.size)] 45)
    simpa using this
  refine ⟨by simp [h.len], by simpa [ptrs] using hown, ?_, ?_, ?_⟩
  · intro k hk
    simp [Value.ownBlock] at hk
    omega
  · intro i q hq
    by_cases hi : i < ps.length
    · rw [List.getElem?_append_left hi] at hq
      obtain ⟨h1, h2, h3⟩ := h.node i q hq
      refine ⟨?_, h2, by omega⟩
      unfold Blk at *
      rw [hold _ h3 ?_]
      · exact h1
      · intro e
        obtain ⟨_, cur, hcur⟩ := hvb _ e.symm
        rw [h1] at hcur
        simp at hcur
    · rw [List.getElem?_append_right (by omega)] at hq
      have hi0 : i - ps.length = 0 := by
        have := (List.getElem?_eq_some_iff.1 hq).1
        simp at this
        omega
      rw [hi0] at hq
      simp at hq
      subst hq
      have : i = n := by have := h.len; omega
      subst this
      exact ⟨hn, by simp; omega, by simp; omega⟩
  · intro hx q hq
    by_cases hi : 0 < ps.length
    · rw [List.getElem?_append_left hi] at hq
      obtain ⟨h1, h2, h3⟩ := h.opn hx q hq
      refine ⟨h1, by omega, ?_⟩
      unfold Opn at *
      rw [hold _ h2 ?_]
      · exact h3
      · intro e
        obtain ⟨_, cur, hcur⟩ := hvb _ e.symm
        obtain ⟨_, _, _, _, _, h4⟩ := h3
        rw [h4] at hcur
        simp at hcur
    · obtain rfl : ps = [] := List.eq_nil_of_length_eq_zero (by omega)
      simp at hq
      subst hq
      exact ⟨hlo, by simp; omega, _, _, _, _, _, hc⟩

end Go.Proofs.Qxb6616645a
