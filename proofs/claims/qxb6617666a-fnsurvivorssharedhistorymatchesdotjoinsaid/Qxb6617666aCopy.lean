import Derived.Test.Qxb6617666aTo
namespace Go.Proofs.Qxb6617666a
open Go.RowKit
set_option linter.unusedVariables false
set_option linter.unusedSimpArgs false

/-- The first k nodes of a row of n. -/
def Nodes (g : Nat) (cs : List Value) (k n : Nat) (l : List ByteArray) : Prop :=
  ∀ j, j < k → cs[j * 3]? = some (.string (l.getD j ByteArray.empty)) ∧ cs[j * 3 + 1]? = some (.pointer (if j + 1 < k then some ⟨g, (j + 1) * 3, none⟩ else none)) ∧ cs[j * 3 + 2]? = some (.int .i64 ((n : Int) - j))

/-- w' is w but for block g, draws aside. -/
structure But (g : Nat) (w w' : World) : Prop where
  os : w'.os = w.os
  tape : w'.tape = w.tape
  output : w'.output = w.output
  size : w'.heap.size = w.heap.size
  block : ∀ k, k ≠ g → w'.heap[k]? = w.heap[k]?
theorem But.refl (g : Nat) (w : World) : But g w w := ⟨rfl, rfl, rfl, rfl, fun _ _ => rfl⟩
theorem But.setCell {g : Nat} {w w' : World} (h : But g w w') (i : Nat) (u : Value) : But g w (w'.setCell ⟨g, i, none⟩ u) :=
  ⟨h.os, h.tape, h.output, by simpa [World.setCell] using h.size, fun k hk => (Below.heap_setCell _ _ _ _ hk).trans (h.block k hk)⟩
theorem But.below {g B : Nat} {w w' : World} (h : But g w w') (hB : B ≤ g) : Below B w w' := ⟨h.os, h.tape, h.output, by rw [h.size]; exact Nat.le_refl _, fun k hk => h.block k (by omega)⟩

theorem get_set {cs : List Value} {i j : Nat} {v : Value} (hi : i < cs.length) : (cs.set i v)[j]? = if i = j then some v else cs[j]? := by
  by_cases h : i = j
  · subst h; simp [hi]
  · simp [h]

theorem nodes_zero {wr : World} {g n : Nat} {cs : List Value} {l : List ByteArray} {x : ByteArray} (hblk : Blk wr g cs 43) (hlen : cs.length = n * 3) (hn : Nodes g cs 0 n l) (hx : l.getD 0 ByteArray.empty = x) (h : 0 < n) :
    Blk (((wr.setCell ⟨g, 0, none⟩ (.string x)).setCell ⟨g, 1, none⟩ (.pointer none)).setCell ⟨g, 2, none⟩ (.int .i64 n)) g (((cs.set 0 (.string x)).set 1 (.pointer none)).set 2 (.int .i64 n)) 43 ∧
      (((cs.set 0 (.string x)).set 1 (.pointer none)).set 2 (.int .i64 n)).length = n * 3 ∧ Nodes g (((cs.set 0 (.string x)).set 1 (.pointer none)).set 2 (.int .i64 n)) 1 n l := by
  refine ⟨((hblk.set _ _).set _ _).set _ _, by simpa using hlen, fun j hj => ?_⟩
  obtain rfl : j = 0 := by omega
  rw [hx]
  simp [get_set, show 0 < cs.length by omega, show 1 < cs.length by omega, show 2 < cs.length by omega]

/-- A node behind the first, laid but not yet led to; and then led to. -/
theorem nodes_succ {wr : World} {g n j : Nat} {cs : List Value} {l : List ByteArray} {x : ByteArray} (hblk : Blk wr g cs 43) (hlen : cs.length = n * 3) (hn : Nodes g cs (j + 1) n l) (hx : l.getD (j + 1) ByteArray.empty = x) (h : j + 1 < n) :
    Blk (((wr.setCell ⟨g, (j + 1) * 3, none⟩ (.string x)).setCell ⟨g, (j + 1) * 3 + 1, none⟩ (.pointer none)).setCell ⟨g, (j + 1) * 3 + 2, none⟩ (.int .i64 ((n : Int) - ((j : Int) + 1)))) g
      (((cs.set ((j + 1) * 3) (.string x)).set ((j + 1) * 3 + 1) (.pointer none)).set ((j + 1) * 3 + 2) (.int .i64 ((n : Int) - ((j : Int) + 1)))) 43 ∧
    (((cs.set ((j + 1) * 3) (.string x)).set ((j + 1) * 3 + 1) (.pointer none)).set ((j + 1) * 3 + 2) (.int .i64 ((n : Int) - ((j : Int) + 1)))).length = n * 3 ∧
    Blk ((((wr.setCell ⟨g, (j + 1) * 3, none⟩ (.string x)).setCell ⟨g, (j + 1) * 3 + 1, none⟩ (.pointer none)).setCell ⟨g, (j + 1) * 3 + 2, none⟩ (.int .i64 ((n : Int) - ((j : Int) + 1)))).setCell ⟨g, j * 3 + 1, none⟩ (.pointer (some ⟨g, (j + 1) * 3, none⟩))) g
      ((((cs.set ((j + 1) * 3) (.string x)).set ((j + 1) * 3 + 1) (.pointer none)).set ((j + 1) * 3 + 2) (.int .i64 ((n : Int) - ((j : Int) + 1)))).set (j * 3 + 1) (.pointer (some ⟨g, (j + 1) * 3, none⟩))) 43 ∧
    ((((cs.set ((j + 1) * 3) (.string x)).set ((j + 1) * 3 + 1) (.pointer none)).set ((j + 1) * 3 + 2) (.int .i64 ((n : Int) - ((j : Int) + 1)))).set (j * 3 + 1) (.pointer (some ⟨g, (j + 1) * 3, none⟩))).length = n * 3 ∧
    Nodes g ((((cs.set ((j + 1) * 3) (.string x)).set ((j + 1) * 3 + 1) (.pointer none)).set ((j + 1) * 3 + 2) (.int .i64 ((n : Int) - ((j : Int) + 1)))).set (j * 3 + 1) (.pointer (some ⟨g, (j + 1) * 3, none⟩))) (j + 1 + 1) n l := by
  refine ⟨((hblk.set _ _).set _ _).set _ _, by simpa using hlen, (((hblk.set _ _).set _ _).set _ _).set _ _, by simpa using hlen, fun i hi => ?_⟩
  rw [get_set (by first | omega | (simp; omega)), get_set (by first | omega | (simp; omega)), get_set (by first | omega | (simp; omega)), get_set (by first | omega | (simp; omega)), get_set (by first | omega | (simp; omega)), get_set (by first | omega | (simp; omega)), get_set (by first | omega | (simp; omega)), get_set (by first | omega | (simp; omega)), get_set (by first | omega | (simp; omega)), get_set (by first | omega | (simp; omega)), get_set (by first | omega | (simp; omega)), get_set (by first | omega | (simp; omega))]
  by_cases e : i = j + 1
  · subst e
    rw [hx]
    refine ⟨?_, ?_, ?_⟩
    · rw [if_neg (by omega), if_neg (by omega), if_neg (by omega), if_pos rfl]
    · rw [if_neg (by omega), if_neg (by omega), if_pos rfl, if_neg (by omega)]
    · rw [if_neg (by omega), if_pos rfl]
      simp
  · obtain ⟨h1, h2, h3⟩ := hn i (by omega)
    refine ⟨?_, ?_, ?_⟩
    · rw [if_neg (by omega), if_neg (by omega), if_neg (by omega), if_neg (by omega)]
      exact h1
    · rw [if_pos (show i + 1 < j + 1 + 1 by omega)]
      by_cases e2 : i = j
      · subst e2
        rw [if_pos rfl]
      · rw [if_neg (by omega), if_neg (by omega), if_neg (by omega), if_neg (by omega), h2, if_pos (by omega)]
    · rw [if_neg (by omega), if_neg (by omega), if_neg (by omega), if_neg (by omega)]
      exact h3

/-- A whole row of nodes is a list. -/
theorem nodes_list {w : World} {g n : Nat} {cs : List Value} {l : List ByteArray} (hblk : Blk w g cs 43) (hn : Nodes g cs n n l) (hl : n ≤ l.length) : ∀ (m j : Nat), j + m = n → Lst w (if m = 0 then none else some ⟨g, j * 3, none⟩) ((l.take n).drop j)
  | 0, j, h => by
    have : (l.take n).drop j = [] := by apply List.drop_eq_nil_of_le; simp; omega
    rw [this]
    rfl
  | m + 1, j, h => by
    obtain ⟨h1, h2, h3⟩ := hn j (by omega)
    have ih := nodes_list hblk hn hl m (j + 1) (by omega)
    have hj : j < (l.take n).length := by simp; omega
    rw [List.drop_eq_getElem_cons hj, if_neg (by omega)]
    refine ⟨g, j * 3, _, cs, rfl, hblk, ?_, h2, ?_, ?_⟩
    · rw [h1]
      simp [List.getD, show j < l.length by omega]
    · rw [h3]
      congr 2
      simp
      omega
    · by_cases hm : m = 0
      · subst hm
        rw [if_neg (by omega)]
        simpa using ih
      · rw [if_neg hm] at ih
        rw [if_pos (by omega)]
        exact ih

set_option maxHeartbeats 400000 in
theorem copy_any (u : Option Addr) (g n : Nat) (l : List ByteArray) (cs : List Value) (w0 w : World) (hl : Lst w0 u l) (hn : n ≤ l.length) (hb : Below w0.heap.size w0 w) (hg : w0.heap.size ≤ g) (hk : Blk w g cs 43) (hc : cs.length = n * 3) (h1 : n ≤ 1099511627776) :
    Calls Try.prog 21 #[.pointer u, .slice (some ⟨g, 0, none⟩) n n] w fun e w' => e = .returned (.tuple #[]) ∧ But g w w' ∧ ∃ cs', Blk w' g cs' 43 ∧ cs'.length = n * 3 ∧ Nodes g cs' n n l := by
  go_enter Try.func21, Try.ntmps21
  go_wp2
  go_loopw [0, 7] (fun p i wr => ∃ (k : Nat) (u' : Option Addr) (cs' : List Value), k ≤ n ∧ p = .pointer u' ∧ i = .int .i64 k ∧ But g w wr ∧ Blk wr g cs' 43 ∧ cs'.length = n * 3 ∧ Nodes g cs' k n l ∧ Lst w0 u' (l.drop k))
    (fun _ i _ => n - (intOf i).toNat)
  case atStart => exact ⟨0, u, cs, Nat.zero_le _, rfl, rfl, But.refl _ _, hk, hc, fun j hj => absurd hj (Nat.not_lt_zero _), hl⟩
  case round =>
    obtain ⟨k, u', cs', hkn, rfl, rfl, hbut, hblk, hlen, hnodes, hlst⟩ := hrel
    clear hk hc hl
    by_cases hlt : k < n
    · obtain ⟨b, o, v', rfl, hc0, hc1, _, hlst', _⟩ := hlst.head (by simp; omega)
      have hx : (l.drop k).getD 0 ByteArray.empty = l.getD k ByteArray.empty := by simp [List.getD]
      rw [hx] at hc0
      have hd : (l.drop k).drop 1 = l.drop (k + 1) := by simp
      rw [hd] at hlst'
      have hb' := World.block_lt_of_cell? w0 _ hc1
      simp only at hb'
      have hbr : Below w0.heap.size w0 wr := hb.trans (hbut.below hg)
      have hc0' := (hbr.cell (p := ⟨b, o, none⟩) hb').trans hc0
      have hc1' := (hbr.cell (p := ⟨b, o + 1, none⟩) hb').trans hc1
      have hbg : b ≠ g := by omega
      obtain ⟨x, hxx⟩ : ∃ x, l.getD k ByteArray.empty = x := ⟨_, rfl⟩
      rw [hxx] at hc0'
      obtain ⟨y0, e0⟩ : ∃ y, wr.cell? ⟨g, k * 3, none⟩ = some y := ⟨_, hblk.cell (k * 3) _ (List.getElem?_eq_getElem (by omega))⟩
      obtain ⟨y1, e1⟩ : ∃ y, wr.cell? ⟨g, k * 3 + 1, none⟩ = some y := ⟨_, hblk.cell (k * 3 + 1) _ (List.getElem?_eq_getElem (by omega))⟩
      obtain ⟨y2, e2⟩ : ∃ y, wr.cell? ⟨g, k * 3 + 2, none⟩ = some y := ⟨_, hblk.cell (k * 3 + 2) _ (List.getElem?_eq_getElem (by omega))⟩
      have f := hblk.frozen
      have hbg' : ¬ g = b := fun e => hbg e.symm
      clear hx hd hlst hc0 hc1
      cases k with
      | zero =>
        have R := nodes_zero hblk hlen hnodes (n := n) (l := l) (x := x) hxx (by omega)
        have RB := ((hbut.setCell 0 (.string x)).setCell 1 (.pointer none)).setCell 2 (.int .i64 n)
        clear hnodes hblk hbut hb hbr
        go_wp2
        go_roundw
        case rel => exact ⟨1, v', _, by omega, rfl, rfl, RB, R.1, R.2.1, R.2.2, hlst'⟩
        case measure => simp [intOf]; omega
      | succ j =>
        have R := nodes_succ hblk hlen hnodes (n := n) (l := l) (x := x) hxx (by omega)
        have RB := (((hbut.setCell ((j + 1) * 3) (.string x)).setCell ((j + 1) * 3 + 1) (.pointer none)).setCell ((j + 1) * 3 + 2) (.int .i64 ((n : Int) - ((j : Int) + 1)))).setCell (j * 3 + 1) (.pointer (some ⟨g, (j + 1) * 3, none⟩))
        obtain ⟨y3, e3⟩ : ∃ y, (((wr.setCell ⟨g, (j + 1) * 3, none⟩ (.string x)).setCell ⟨g, (j + 1) * 3 + 1, none⟩ (.pointer none)).setCell ⟨g, (j + 1) * 3 + 2, none⟩ (.int .i64 ((n : Int) - ((j : Int) + 1)))).cell? ⟨g, j * 3 + 1, none⟩ = some y := ⟨_, R.1.cell (j * 3 + 1) _ (List.getElem?_eq_getElem (by rw [R.2.1]; omega))⟩
        clear hnodes hblk hbut hb hbr
        have R2 := R.2.2
        clear R
        go_wp2
        go_roundw
        case rel => exact ⟨j + 1 + 1, v', _, by omega, rfl, by go_num, RB, R2.1, R2.2.1, R2.2.2, hlst'⟩
        case measure => simp [intOf]; omega
    · obtain rfl : k = n := by omega
      go_wp2
      go_end0
      exact ⟨rfl, hbut, cs', hblk, hlen, hnodes⟩
end Go.Proofs.Qxb6617666a
