import Derived.Test.Qxb6617666aFirst
import Derived.Deep.RegionWith
namespace Go.Proofs.Qxb6617666a
open Go.RowKit
set_option linter.unusedVariables false
set_option linter.unusedSimpArgs false

/-- l1's first n values, of which those below k are joined. -/
def mixL (l1 l2 : List ByteArray) (skip n k : Nat) : List ByteArray := (List.range n).map fun i => if i < k then joinAt l1 l2 skip i else l1.getD i ByteArray.empty
theorem mixL_length (l1 l2 : List ByteArray) (skip n k : Nat) : (mixL l1 l2 skip n k).length = n := by simp [mixL]
theorem mixL_get {l1 l2 : List ByteArray} {skip n k i : Nat} (h : i < n) : (mixL l1 l2 skip n k).getD i ByteArray.empty = if i < k then joinAt l1 l2 skip i else l1.getD i ByteArray.empty := by simp [mixL, List.getD, h]

theorem mix_start {g n skip : Nat} {cs : List Value} {l1 l2 : List ByteArray} (hn : Nodes g cs n n l1) : Nodes g cs n n (mixL l1 l2 skip n skip) := by
  intro j hj
  obtain ⟨h1, h2, h3⟩ := hn j hj
  refine ⟨?_, h2, h3⟩
  rw [h1, mixL_get hj]
  by_cases h : j < skip
  · rw [if_pos h]; simp [joinAt, h]
  · rw [if_neg h]

theorem mix_step {wr : World} {g n skip k : Nat} {cs : List Value} {l1 l2 : List ByteArray} (hblk : Blk wr g cs 43) (hlen : cs.length = n * 3) (hn : Nodes g cs n n (mixL l1 l2 skip n k)) (hk : k < n) (hs : skip ≤ k) :
    Blk (wr.setCell ⟨g, k * 3, none⟩ (.string (smax (l1.getD k ByteArray.empty) (l2.getD (k - skip) ByteArray.empty)))) g (cs.set (k * 3) (.string (smax (l1.getD k ByteArray.empty) (l2.getD (k - skip) ByteArray.empty)))) 43 ∧
    (cs.set (k * 3) (.string (smax (l1.getD k ByteArray.empty) (l2.getD (k - skip) ByteArray.empty)))).length = n * 3 ∧
    Nodes g (cs.set (k * 3) (.string (smax (l1.getD k ByteArray.empty) (l2.getD (k - skip) ByteArray.empty)))) n n (mixL l1 l2 skip n (k + 1)) := by
  refine ⟨hblk.set _ _, by simpa using hlen, fun j hj => ?_⟩
  obtain ⟨h1, h2, h3⟩ := hn j hj
  rw [get_set (by omega), get_set (by omega), get_set (by omega), mixL_get hj]
  rw [mixL_get hj] at h1
  refine ⟨?_, by rw [if_neg (by omega)]; exact h2, by rw [if_neg (by omega)]; exact h3⟩
  by_cases e : j = k
  · subst e
    rw [if_pos rfl, if_pos (by omega)]
    simp [joinAt, show ¬ j < skip by omega]
  · rw [if_neg (by omega), h1]
    by_cases h : j < k
    · rw [if_pos h, if_pos (by omega)]
    · rw [if_neg h, if_neg (by omega)]

theorem mix_end (l1 l2 : List ByteArray) (skip n : Nat) (h : n = kept l1 l2 skip) : mixL l1 l2 skip n n = join l1 l2 skip := by
  subst h
  unfold mixL join
  apply List.map_congr_left
  intro i hi
  rw [if_pos (List.mem_range.1 hi)]

set_option maxHeartbeats 400000 in
theorem joined_any (u1 u2 : Option Addr) (l1 l2 : List ByteArray) (skip n : Nat) (w : World) (hl1 : Lst w u1 l1) (hl2 : Lst w u2 l2) (hn : n = kept l1 l2 skip) (hs : skip < n) (h1 : l1.length ≤ 1099511627776) :
    Calls Try.prog 19 #[.pointer u1, .pointer u2, .int .i64 n, .int .i64 skip] w fun e w' => ∃ u', e = .returned (.pointer u') ∧ Lst w' u' (join l1 l2 skip) ∧ Below w.heap.size w w' := by
  have hn1 : n ≤ l1.length := by unfold kept at hn; omega
  have hn2 : n ≤ skip + l2.length := by unfold kept at hn; omega
  have HN := hide hn
  have hmk := mk_nodes n (by omega)
  have HC := hide (copy_any u1 w.heap.size n l1 (zeros n) w _ hl1 hn1 ((Below.refl w.heap.size w).alloc (Nat.le_refl _) (.cells (zeros n).toArray 43)) (Nat.le_refl _) (Blk.new w (zeros n) 43) (zeros_length n) (by omega))
  have hnp : (0 : Int) < n := by omega
  clear hn hl1
  go_enter Try.func19, Try.ntmps19
  go_wp2_with (go_at_call 21; refine Calls.mono (Hid.out HC) ?_; rintro e w1 ⟨rfl, hbut, cs1, hb1, hc1, hn1'⟩)
  clear HC hmk
  go_loopw [1, 10] (fun p i wr => ∃ (k : Nat) (u' : Option Addr) (cs' : List Value), skip ≤ k ∧ k ≤ n ∧ p = .pointer u' ∧ i = .int .i64 k ∧ But w.heap.size w1 wr ∧ Blk wr w.heap.size cs' 43 ∧ cs'.length = n * 3 ∧ Nodes w.heap.size cs' n n (mixL l1 l2 skip n k) ∧ Lst w u' (l2.drop (k - skip)))
    (fun _ i _ => n - (intOf i).toNat)
  case atStart => exact ⟨skip, u2, cs1, Nat.le_refl _, by omega, rfl, rfl, But.refl _ _, hb1, hc1, mix_start hn1', by simpa using hl2⟩
  case round =>
    obtain ⟨k, u', cs', hsk, hkn, rfl, rfl, hbut2, hblk, hlen, hnodes, hlst⟩ := hrel
    clear hb1 hc1 hn1' hl2
    have hbw : Below w.heap.size w wr := (((Below.refl w.heap.size w).alloc (Nat.le_refl _) (.cells (zeros n).toArray 43)).trans (hbut.below (Nat.le_refl _))).trans (hbut2.below (Nat.le_refl _))
    by_cases hlt : k < n
    · obtain ⟨b, o, v', rfl, hc0, hc1, _, hlst', _⟩ := hlst.head (by simp; omega)
      have hx : (l2.drop (k - skip)).getD 0 ByteArray.empty = l2.getD (k - skip) ByteArray.empty := by simp [List.getD]
      rw [hx] at hc0
      have hd : (l2.drop (k - skip)).drop 1 = l2.drop (k + 1 - skip) := by simp; congr 1; omega
      rw [hd] at hlst'
      have hb' := World.block_lt_of_cell? w _ hc1
      simp only at hb'
      have hc0' := (hbw.cell (p := ⟨b, o, none⟩) hb').trans hc0
      have hc1' := (hbw.cell (p := ⟨b, o + 1, none⟩) hb').trans hc1
      have hbg : ¬ b = w.heap.size := by omega
      have hbg' : ¬ w.heap.size = b := by omega
      have R := mix_step hblk hlen hnodes hlt hsk
      have hck := hblk.cell (k * 3) _ (hnodes k hlt).1
      rw [mixL_get hlt, if_neg (by omega)] at hck
      have hfk := hblk.frozen (k * 3)
      obtain ⟨x, hxx⟩ : ∃ x, l1.getD k ByteArray.empty = x := ⟨_, rfl⟩
      obtain ⟨y, hyy⟩ : ∃ y, l2.getD (k - skip) ByteArray.empty = y := ⟨_, rfl⟩
      rw [hxx] at hck R
      rw [hyy] at hc0' R
      have hbut3 := hbut2.setCell (k * 3) (.string (smax x y))
      clear hx hd hlst hc0 hc1 hnodes hblk hbw hxx hyy
      go_wp2
      go_region_with (first | (go_at_call 18; refine (surv_any _ _ _).mono ?_; rintro e w' ⟨rfl, hw⟩; subst w'))
      all_goals go_wp2
      all_goals
        go_roundw
        case rel => exact ⟨k + 1, v', _, by omega, by omega, rfl, by go_num, ⟨hbut3.os, hbut3.tape, hbut3.output, hbut3.size, hbut3.block⟩, R.1.drew, R.2.1, R.2.2, hlst'⟩
        case measure => simp [intOf]; omega
    · obtain rfl : k = n := by omega
      go_wp2
      go_ret
      refine ⟨_, rfl, ?_, hbw⟩
      have := nodes_list hblk hnodes (by rw [mixL_length]; exact Nat.le_refl _) k 0 (by omega)
      rw [if_neg (by omega), List.drop_zero, List.take_of_length_le (by rw [mixL_length]; exact Nat.le_refl _), mix_end l1 l2 skip k HN.out] at this
      simpa using this
end Go.Proofs.Qxb6617666a
