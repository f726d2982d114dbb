import Derived.Test.Qxb6617666aTop
import Derived.Test.Qxb6617666aZZ2
namespace Go.Proofs.Qxb6617666a
open Go.RowKit
set_option linter.unusedVariables false
set_option linter.unusedSimpArgs false

/-- The first k cells hold l's. -/
def Fill (cs : List Value) (k : Nat) (l : List ByteArray) : Prop := ∀ j, j < k → cs[j]? = some (.string (l.getD j ByteArray.empty))
theorem Fill.step {cs : List Value} {k : Nat} {l : List ByteArray} (h : Fill cs k l) (hk : k < cs.length) : Fill (cs.set k (.string (l.getD k ByteArray.empty))) (k + 1) l := by
  intro j hj
  rw [get_set hk]
  by_cases e : k = j
  · subst e; rw [if_pos rfl]
  · rw [if_neg e]; exact h j (by omega)

theorem getD_left {l1 l2 : List ByteArray} {k : Nat} (h : k < l1.length) : (l1 ++ l2).getD k ByteArray.empty = l1.getD k ByteArray.empty := by simp [List.getD, List.getElem?_append_left h]
theorem getD_right {l1 l2 : List ByteArray} {k : Nat} : (l1 ++ l2).getD (l1.length + k) ByteArray.empty = l2.getD k ByteArray.empty := by
  unfold List.getD
  rw [List.getElem?_append_right (by omega), Nat.add_sub_cancel_left]

theorem Fill.rd {w : World} {g : Nat} {cs : List Value} {l : List ByteArray} (hb : Blk w g cs 9) (h : Fill cs l.length l) : Rd w (some ⟨g, 0, none⟩) l := by
  intro i x hi
  have hlt : i < l.length := (List.getElem?_eq_some_iff.1 hi).1
  refine ⟨g, 0, rfl, ?_⟩
  rw [Nat.zero_add]
  refine hb.cell i _ ?_
  rw [h i hlt]
  simp [List.getD, hi]

set_option maxHeartbeats 400000 in
theorem join_any (a1 a2 : Option Addr) (c1 c2 : Nat) (l1 l2 : List ByteArray) (w : World) (hr1 : Rd w a1 l1) (hr2 : Rd w a2 l2) (h1 : l1.length ≤ 1048576) (h2 : l2.length ≤ 1048576) :
    Calls Try.prog 10 #[.slice a1 l1.length c1, .slice a2 l2.length c2] w fun e w' => ∃ a c, e = .returned (.slice a (l1 ++ l2).length c) ∧ Rd w' a (l1 ++ l2) ∧ Below w.heap.size w w' := by
  have hmk0 := run_make_row' (P := Try.prog) 23 9 (.string ByteArray.empty) 16 Try.underlying23 info9 rfl .i64 .i64 (l1.length + l2.length) (by omega) (by omega)
  have hmk : ∀ w : World, (Instr.makeSlice 23 (.int .i64 ((l1.length : Int) + (l2.length : Int))) (.int .i64 ((l1.length : Int) + (l2.length : Int)))).run Try.prog w = .ok (.slice (some ⟨w.heap.size, 0, none⟩) (l1.length + l2.length) (l1.length + l2.length)) (w.alloc (.cells (madeCells #[.string ByteArray.empty] (l1.length + l2.length)) 9)) := by
    intro w
    exact hmk0 w
  clear hmk0
  have b0 : Blk (w.alloc (.cells (madeCells #[.string ByteArray.empty] (l1.length + l2.length)) 9)) w.heap.size (madeCells #[.string ByteArray.empty] (l1.length + l2.length)).toList 9 := by
    have := Blk.new w (madeCells #[.string ByteArray.empty] (l1.length + l2.length)).toList 9
    simpa using this
  have hb0 := (Below.refl w.heap.size w).alloc (Nat.le_refl _) (.cells (madeCells #[.string ByteArray.empty] (l1.length + l2.length)) 9)
  have hlen0 : (madeCells #[.string ByteArray.empty] (l1.length + l2.length)).toList.length = l1.length + l2.length := by simp [size_madeCells]
  go_enter Try.func10, Try.ntmps10
  go_wp2
  go_loopw [6] (fun i wr => ∃ (k : Nat) (cs : List Value), k ≤ l1.length ∧ i = .int .i64 k ∧ Blk wr w.heap.size cs 9 ∧ cs.length = l1.length + l2.length ∧ Fill cs k (l1 ++ l2) ∧ Below w.heap.size w wr) (fun i _ => l1.length - (intOf i).toNat)
  case atStart => exact ⟨0, _, Nat.zero_le _, rfl, b0, hlen0, fun j hj => absurd hj (Nat.not_lt_zero _), hb0⟩
  case round =>
    clear b0 hb0 hlen0 hmk
    obtain ⟨k, cs, hk, rfl, hblk, hlen, hfill, hbel⟩ := hrel
    by_cases hkl : k < l1.length
    · obtain ⟨b, o, rfl, hc⟩ := hr1.at hkl
      have hc' := (hbel.cell (p := ⟨b, o + k, none⟩) (World.block_lt_of_cell? w _ hc)).trans hc
      obtain ⟨y, hy⟩ : ∃ y, wr.cell? ⟨w.heap.size, k, none⟩ = some y := ⟨_, hblk.cell k _ (List.getElem?_eq_getElem (by omega))⟩
      have hfz := hblk.frozen k
      have R := hfill.step (by omega : k < cs.length)
      rw [getD_left hkl] at R
      obtain ⟨x, hx⟩ : ∃ x, l1.getD k ByteArray.empty = x := ⟨_, rfl⟩
      rw [hx] at hc' R
      have B := hblk.set k (.string x)
      have hbel' := hbel.setCell (p := ⟨w.heap.size, k, none⟩) (Nat.le_refl _) (.string x)
      clear hc hx hfill hblk
      go_wp2
      go_roundw
      case rel => exact ⟨k + 1, _, by omega, by go_num, B, by simpa using hlen, R, hbel'⟩
      case measure => simp [intOf]; omega
    · obtain rfl : k = l1.length := by omega
      go_wp2
      go_loopw [7] (fun i wr => ∃ (k : Nat) (cs : List Value), k ≤ l2.length ∧ i = .int .i64 k ∧ Blk wr w.heap.size cs 9 ∧ cs.length = l1.length + l2.length ∧ Fill cs (l1.length + k) (l1 ++ l2) ∧ Below w.heap.size w wr) (fun i _ => l2.length - (intOf i).toNat)
      case atStart => exact ⟨0, cs, Nat.zero_le _, rfl, hblk, hlen, hfill, hbel⟩
      case round =>
        clear hblk hlen hfill hbel
        obtain ⟨k, cs, hk, rfl, hblk, hlen, hfill, hbel⟩ := hrel
        by_cases hkl : k < l2.length
        · obtain ⟨b, o, rfl, hc⟩ := hr2.at hkl
          have hc' := (hbel.cell (p := ⟨b, o + k, none⟩) (World.block_lt_of_cell? w _ hc)).trans hc
          obtain ⟨y, hy⟩ : ∃ y, wr.cell? ⟨w.heap.size, l1.length + k, none⟩ = some y := ⟨_, hblk.cell (l1.length + k) _ (List.getElem?_eq_getElem (by omega))⟩
          have hfz := hblk.frozen (l1.length + k)
          have R := hfill.step (by omega : l1.length + k < cs.length)
          rw [getD_right] at R
          obtain ⟨x, hx⟩ : ∃ x, l2.getD k ByteArray.empty = x := ⟨_, rfl⟩
          rw [hx] at hc' R
          have B := hblk.set (l1.length + k) (.string x)
          have hbel' := hbel.setCell (p := ⟨w.heap.size, l1.length + k, none⟩) (Nat.le_refl _) (.string x)
          clear hc hx hfill hblk
          go_wp2
          go_roundw
          case rel => exact ⟨k + 1, _, by omega, by go_num, B, by simpa using hlen, R, hbel'⟩
          case measure => simp [intOf]; omega
        · obtain rfl : k = l2.length := by omega
          go_wp2
          go_ret
          refine ⟨some ⟨w.heap.size, 0, none⟩, l1.length + l2.length, by rw [List.length_append]; rfl, Fill.rd hblk (by rw [List.length_append]; exact hfill), hbel⟩
end Go.Proofs.Qxb6617666a
