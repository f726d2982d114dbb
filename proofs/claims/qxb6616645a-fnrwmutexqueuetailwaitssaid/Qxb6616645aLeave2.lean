import Derived.Test.Qxb6616645aLeave
import Derived.Deep.OwnRows
namespace Go.Proofs.Qxb6616645a
open Go.RowKit
set_option linter.unusedSimpArgs false
set_option linter.unusedVariables false

theorem kept {p : Prop} (h : p) : Hid p := h

theorem copied {W : World} {n : Nat} {B : Nat → Bool} {g : Nat} (h : Hid (W.heap[g]? = some (.cells (splice (madeCells #[.bool false] n).toList 0 (bools n B)).toArray 4 (0, 0)))) : ∀ i, i < n → W.cell? ⟨g, 0 + i, none⟩ = some (.bool (B i)) := by
  intro i hi
  have h1 : splice (madeCells #[.bool false] n).toList 0 (bools n B) = bools n B := by
    unfold splice
    rw [List.take_zero, List.nil_append, List.drop_eq_nil_of_le (by simp [bools_length, size_madeCells]), List.append_nil]
  have h2 := h.out
  rw [h1] at h2
  have h3 : Blk W g (bools n B) 4 := h2
  have := h3.cell i _ (bools_get hi)
  rwa [Nat.zero_add]

/-- The slice at a reads as the first n of xs. -/
def Rd (w : World) (a : Option Addr) (n : Nat) (xs : Nat → Bool) : Prop := ∀ i, i < n → ∃ g o, a = some ⟨g, o, none⟩ ∧ w.cell? ⟨g, o + i, none⟩ = some (.bool (xs i))
theorem IsB.rd {w : World} {a : Option Addr} {len cap : Nat} {B : Nat → Bool} (h : IsB w a len cap B) : Rd w a len B := by
  intro i hi
  obtain ⟨b, o, e, hc⟩ := h.at (by omega)
  exact ⟨b, o, e, hc i hi⟩
theorem Rd.one {w : World} {a : Option Addr} {n : Nat} {xs : Nat → Bool} (h : Rd w a n xs) (hn : 0 < n) : ∃ b o, a = some ⟨b, o, none⟩ ∧ ∀ i, i < n → w.cell? ⟨b, o + i, none⟩ = some (.bool (xs i)) := by
  obtain ⟨b, o, rfl, _⟩ := h 0 hn
  refine ⟨b, o, rfl, fun i hi => ?_⟩
  obtain ⟨b', o', e, hc⟩ := h i hi
  simp only [Option.some.injEq, Addr.mk.injEq] at e
  obtain ⟨rfl, rfl, _⟩ := e
  exact hc
theorem Rd.src {w : World} {a : Option Addr} {n : Nat} {xs : Nat → Bool} (h : Rd w a n xs) (ob : Obj) (X : Addr) :
    0 < (bools n xs).length → some X = some X ∧ ∃ ad, a = some ad ∧ ∀ j v, (bools n xs)[j]? = some v → (w.alloc ob).cell? (ad.add j) = some v := by
  intro hl
  rw [bools_length] at hl
  obtain ⟨b, o, rfl, hcell⟩ := h.one hl
  refine ⟨rfl, _, rfl, fun j v hv => ?_⟩
  have hj : j < n := by have := (List.getElem?_eq_some_iff.1 hv).1; rwa [bools_length] at this
  rw [bools_get hj] at hv
  have h := hcell j hj
  rw [Addr.add_lit, World.cell?_alloc_lt _ _ _ (World.block_lt_of_cell? w _ h), h, hv]
theorem Rd.made {W : World} {n : Nat} {B : Nat → Bool} {g : Nat} (h : Hid (W.heap[g]? = some (.cells (splice (madeCells #[.bool false] n).toList 0 (bools n B)).toArray 4 (0, 0)))) : Rd W (some ⟨g, 0, none⟩) n B :=
  fun i hi => ⟨g, 0, rfl, copied h i hi⟩
/-- 'waits[1:]'. -/
theorem Rd.tail {w : World} {g n : Nat} {xs : Nat → Bool} (h : Rd w (some ⟨g, 0, none⟩) n xs) (hn : 0 < n) : Rd w (if n = 1 then some ⟨g, 0, none⟩ else some ⟨g, 1, none⟩) (n - 1) (fun i => xs (i + 1)) := by
  intro i hi
  obtain ⟨b, o, e, hc⟩ := h.one hn
  simp only [Option.some.injEq, Addr.mk.injEq] at e
  obtain ⟨rfl, rfl, _⟩ := e
  refine ⟨g, 1, by rw [if_neg (by omega)], ?_⟩
  have := hc (i + 1) (by omega)
  rw [Nat.zero_add] at this
  rw [Nat.add_comm]
  exact this

theorem new_at (r : Int) (ao : Option Addr) (n cap : Nat) (xs : Nat → Bool) (w : World) (hn : n ≤ 1099511627776)
    (hq : Rd w ao n xs) :
    Calls Try.prog 6 #[.int .i64 r, .slice ao n cap] w fun e w' => ∃ bm hi, e = .returned (.pointer (some ⟨bm, 0, none⟩)) ∧ w.heap.size ≤ bm ∧ Mx w' bm hi r false n xs ∧ Below bm w w' :=
  (new_any r ao n cap xs w hn hq).mono fun e w' ⟨h1, h2, h3⟩ => ⟨w.heap.size, w'.heap.size, h1, Nat.le_refl _, h2, h3⟩

theorem beq_gen (a1 a2 : Option Addr) (n c1 c2 : Nat) (xs : Nat → Bool) (w : World) (hn : n ≤ maxLen) (h1 : Rd w a1 n xs) (h2 : Rd w a2 n xs) :
    Calls Try.prog 10 #[.slice a1 n c1, .slice a2 n c2] w fun e w' => e = .returned (.bool true) ∧ ∃ k, w' = w.drewN k := by
  by_cases h0 : n = 0
  · subst h0; exact beq_nil a1 a2 c1 c2 w
  · obtain ⟨b1, o1, rfl, g1⟩ := h1.one (by omega)
    obtain ⟨b2, o2, rfl, g2⟩ := h2.one (by omega)
    exact beq_same b1 o1 b2 o2 n c1 c2 xs w hn g1 g2

theorem queue_rd {bm hi n : Nat} {r : Int} {x : Bool} {xs : Nat → Bool} {w : World} (h : Mx w bm hi r x n xs) (hn : n ≤ 1099511627776) :
    Calls Try.prog 11 #[.pointer (some ⟨bm, 0, none⟩)] w fun e w' => e = .returned (.slice (some ⟨w.heap.size, 0, none⟩) n n) ∧ Rd w' (some ⟨w.heap.size, 0, none⟩) n xs ∧ w.heap.size < w'.heap.size ∧ Below w.heap.size w w' :=
  (queue_mx h hn).mono fun e w' ⟨h1, h2, h3, h4⟩ => ⟨h1, fun i hi => ⟨_, 0, rfl, h2 i hi⟩, h3, h4⟩

theorem st_at {bm hi n : Nat} {r d : Int} {xs : Nat → Bool} {w : World} (x : Bool) (hd1 : 1 ≤ d) (hd : d ≤ r) (hr : r ≤ 65536) (hst : St w bm hi r n xs (d - 1)) (hx : 0 < n → xs 0 = true) (hxx : x = decide (r - d = 0 ∧ 0 < n)) :
    Calls Try.prog 7 #[.pointer (some ⟨bm, 0, none⟩)] w fun e w' => e = .returned (.tuple #[]) ∧ Within bm hi w w' ∧ St w' bm hi r n xs d ∧ ∃ n' xs', Mx w' bm hi (r - d) x n' xs' := by
  have := st_step (by omega) (by omega) hr hst hx
  rw [Int.sub_add_cancel] at this
  refine this.mono ?_
  rintro e w' ⟨h1, h2, h3, h4⟩
  subst hxx
  exact ⟨h1, h2, h3, _, _, h4⟩

theorem below_chain {w W w1 wr w2 : World} {bm hi : Nat} (h1 : Below w.heap.size w W) (hbm : W.heap.size ≤ bm) (h2 : Below bm W w1) (h3 : Within bm hi w1 wr) (h4 : Below wr.heap.size wr w2) (k : Nat) : Below w.heap.size w (w2.drewN k) := by
  have s1 := h1.size
  have s2 := h2.size
  have s3 := h3.size
  have := ((h1.trans (h2.mono (by omega))).trans (h3.below.mono (by omega))).trans (h4.mono (by omega))
  exact ⟨this.os, this.tape, this.output, this.size, this.block⟩

/-- The waits' cells, at the end. -/
theorem Rd.below {w w' : World} {B n : Nat} {a : Option Addr} {xs : Nat → Bool} (h : Rd w a n xs) (hb : Below B w w') (hB : w.heap.size ≤ B) : Rd w' a n xs := by
  intro i hi
  obtain ⟨g, o, e, hc⟩ := h i hi
  have hg := World.block_lt_of_cell? w ⟨g, o + i, none⟩ hc
  simp only at hg
  exact ⟨g, o, e, (hb.cell (p := ⟨g, o + i, none⟩) (by simp only; omega)).trans hc⟩
theorem cells_chain {W w1 wr w2 : World} {bm hi n : Nat} {ao : Option Addr} {xs : Nat → Bool} (hq : Rd W ao n xs)
    (hbm : W.heap.size ≤ bm) (h2 : Below bm W w1) (h3 : Within bm hi w1 wr) (h4 : Below wr.heap.size wr w2) (hbw : bm ≤ wr.heap.size) : Rd w2 ao n xs :=
  hq.below ((h2.trans h3.below).trans (h4.mono hbw)) hbm

end Go.Proofs.Qxb6616645a
