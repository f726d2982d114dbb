import Derived.Test.Qxb6616645aMx
import Derived.Deep.RegionLaw
namespace Go.Proofs.Qxb6616645a
open Go.RowKit

theorem news_at (w : World) (o1 o2 : Obj) (u : Value) : ∀ j x, [u][j]? = some x → (((w.alloc o1).alloc o2).alloc (.cells #[u] 42)).drew.cell? ((⟨w.heap.size + 1 + 1, 0, none⟩ : Addr).add j) = some x := by
  intro j x hj
  match j, hj with
  | 0, hj =>
    simp at hj
    subst hj
    have h1 : (((w.alloc o1).alloc o2).alloc (.cells #[u] 42)).drew.heap[w.heap.size + 1 + 1]? = some (.cells #[u] 42) := by
      show (((w.alloc o1).alloc o2).alloc (.cells #[u] 42)).heap[w.heap.size + 1 + 1]? = _
      have := heap_alloc_new ((w.alloc o1).alloc o2) (.cells #[u] 42)
      simpa only [World.size_alloc] using this
    have := World.news_of_block h1 0 u rfl
    simpa using this

theorem push_block {w w1 : World} {o1 o2 o3 : Obj} {bm n : Nat} {v : Value} {xs : List Value} (hgrow : (((w.alloc o1).alloc o2).alloc o3).drew.grownBy w1 v.ownBlock) (hlt : bm < w.heap.size)
    (own : w.ownsRow (bm + 1) 42 1 v n xs) : w1.heap[bm]? = w.heap[bm]? := by
  rw [hgrow.block bm (by simp; omega) (fun e => by have := (own.lt bm e.symm).1; omega)]
  show (((w.alloc _).alloc _).alloc _).heap[bm]? = _
  rw [Below.heap_alloc _ _ _ (by simp; omega), Below.heap_alloc _ _ _ (by simp; omega), Below.heap_alloc _ _ _ hlt]
theorem push_cell {w w1 : World} {o1 o2 o3 : Obj} {bm n : Nat} {v : Value} {xs : List Value} (hgrow : (((w.alloc o1).alloc o2).alloc o3).drew.grownBy w1 v.ownBlock) (hlt : bm < w.heap.size)
    (own : w.ownsRow (bm + 1) 42 1 v n xs) {i : Nat} {u : Value} (h : w.cell? ⟨bm, i, none⟩ = some u) : w1.cell? ⟨bm, i, none⟩ = some u :=
  (World.cell?_of_block (push_block hgrow hlt own)).trans h
theorem push_frozen {w w1 : World} {o1 o2 o3 : Obj} {bm n : Nat} {v : Value} {xs : List Value} (hgrow : (((w.alloc o1).alloc o2).alloc o3).drew.grownBy w1 v.ownBlock) (hlt : bm < w.heap.size)
    (own : w.ownsRow (bm + 1) 42 1 v n xs) {i : Nat} (h : w.frozen? ⟨bm, i, none⟩ = false) : w1.frozen? ⟨bm, i, none⟩ = false :=
  (World.frozen?_of_block (push_block hgrow hlt own)).trans h

theorem new_step {w0 w w1 : World} {n g cap : Nat} {v c0 c1 c2 c3 : Value} {xs : Nat → Bool} {ps : List (Nat × Nat)} (hblk : Blk w w0.heap.size [c0, c1, c2, c3, v] 41) (hsz : w0.heap.size < w.heap.size)
    {x : Bool} (hque : Que w (w0.heap.size + 1) w.heap.size v n xs ps x) (hbel : Below w0.heap.size w0 w)
    (hown : w1.ownsRow (w0.heap.size + 1) 42 1 (.slice (some ⟨g, 0, none⟩) (n + 1) cap) (n + 1) (ptrs ps ++ [.pointer (some ⟨w.heap.size + 1, 0, none⟩)]))
    (hgrow : (((w.alloc (.chan 0 #[] false 0 0 false)).alloc (.cells #[.bool (xs n), .chan (some w.heap.size)] 45)).alloc (.cells #[.pointer (some ⟨w.heap.size + 1, 0, none⟩)] 42)).drew.grownBy w1 v.ownBlock)
    (hlt : g < w1.heap.size) :
    Blk (w1.setCell ⟨w0.heap.size, 4, none⟩ (.slice (some ⟨g, 0, none⟩) (n + 1) cap)) w0.heap.size [c0, c1, c2, c3, .slice (some ⟨g, 0, none⟩) (n + 1) cap] 41 ∧
    Que (w1.setCell ⟨w0.heap.size, 4, none⟩ (.slice (some ⟨g, 0, none⟩) (n + 1) cap)) (w0.heap.size + 1) (w1.setCell ⟨w0.heap.size, 4, none⟩ (.slice (some ⟨g, 0, none⟩) (n + 1) cap)).heap.size (.slice (some ⟨g, 0, none⟩) (n + 1) cap) (n + 1) xs (ps ++ [(w.heap.size + 1, w.heap.size)]) x ∧
    Below w0.heap.size w0 (w1.setCell ⟨w0.heap.size, 4, none⟩ (.slice (some ⟨g, 0, none⟩) (n + 1) cap)) := by
  have hb1 : Blk w1 w0.heap.size [c0, c1, c2, c3, v] 41 := by unfold Blk at *; rw [push_block hgrow hsz hque.own]; exact hblk
  have hq1 := hque.push (by omega) hown hgrow hlt
  refine ⟨hb1.set 4 _, ?_, ?_⟩
  · have : (w1.setCell ⟨w0.heap.size, 4, none⟩ (.slice (some ⟨g, 0, none⟩) (n + 1) cap)).heap.size = w1.heap.size := by simp [World.setCell]
    rw [this]
    exact hq1.same (fun k hk _ => Below.heap_setCell _ _ _ _ (by simp; omega))
  · refine Below.setCell (Below.grown ((((hbel.alloc (by omega) _).alloc (by simp; omega) _).alloc (by simp; omega) _).drew) hgrow (by simp; omega) ?_) (Nat.le_refl _) _
    intro k hk
    have := (hque.own.lt k hk).1
    omega

theorem alloc3_cell {w : World} {a : Addr} {v : Value} (h : w.cell? a = some v) (o1 o2 o3 : Obj) : (((w.alloc o1).alloc o2).alloc o3).cell? a = some v := by
  have hlt := World.block_lt_of_cell? w a h
  rw [World.cell?_alloc_lt _ _ _ (by simp; omega), World.cell?_alloc_lt _ _ _ (by simp; omega), World.cell?_alloc_lt _ _ _ hlt]; exact h

set_option linter.unusedSimpArgs false
set_option maxHeartbeats 400000 in
theorem new_any (r : Int) (ao : Option Addr) (n cap : Nat) (xs : Nat → Bool) (w : World) (hn : n ≤ 1099511627776)
    (hq : ∀ i, i < n → ∃ g o, ao = some ⟨g, o, none⟩ ∧ w.cell? ⟨g, o + i, none⟩ = some (.bool (xs i))) :
    Calls Try.prog 6 #[.int .i64 r, .slice ao n cap] w fun e w' => e = .returned (.pointer (some ⟨w.heap.size, 0, none⟩)) ∧
      Mx w' w.heap.size w'.heap.size r false n xs ∧ Below w.heap.size w w' := by
  obtain ⟨i0, hi, hz0, hz1, hz2⟩ := info_parts info42
  have hmk := mk0
  go_enter Try.func6, Try.ntmps6
  go_wp2
  go_loopw [13] (fun i wr => ∃ (k : Nat) (v : Value) (ps : List (Nat × Nat)), k ≤ n ∧ i = .int .i64 k ∧ Blk wr w.heap.size [.int .i32 0, .int .u32 0, .int .i64 r, .bool false, v] 41 ∧ Que wr (w.heap.size + 1) wr.heap.size v k xs ps false ∧ Below w.heap.size w wr)
    (fun i _ => n - (intOf i).toNat)
  case atStart =>
    refine ⟨0, .slice none 0 0, [], Nat.zero_le _, rfl, ?_, ⟨rfl, World.ownsRow_nil _ _ _ _, fun g hg => by simp [Value.ownBlock] at hg, fun i q hq => by simp at hq, fun _ q hq => by simp at hq⟩, (Below.refl _ _).alloc (Nat.le_refl _) _⟩
    unfold Blk
    exact heap_alloc_new w _
  case round =>
    obtain ⟨k, v, ps, hk, rfl, hblk, hque, hbel⟩ := hrel
    have hsz := hblk.lt
    by_cases hkn : k < n
    · obtain ⟨g, o, rfl, hg⟩ := hq k hkn
      have hg' := (hbel.cell (p := ⟨g, o + k, none⟩) (World.block_lt_of_cell? w ⟨g, o + k, none⟩ hg)).trans hg
      have h4 := hblk.cell 4 _ rfl
      have f4 := hblk.frozen 4
      have h4a := alloc3_cell h4
      clear hg hq
      go_wp2
      go_region_law (refine step_append_lies _ rfl (.tmp 21) (.tmp 26) 39 rfl (w.heap.size + 1) 42 i0 (.pointer none) 1 8 Try.underlying39 hi hz0 hz1 hz2 rfl (by decide) v k (ptrs ps) (by simp [Act.eval, Act.put]) (((hque.own.alloc _).alloc _).alloc _) ⟨wr.heap.size + 1 + 1, 0, none⟩ 1 1 [.pointer (some ⟨wr.heap.size + 1, 0, none⟩)] (by simp [Act.eval, Act.put]) rfl (news_at _ _ _ _) (ptrs_one [(wr.heap.size + 1, 0)]) (by decide) (by unfold maxLen; omega) (by omega) (by simp; omega) _ rfl ?_; intro g cap w1 hown hgrow hat hlt; have hc4 := push_cell hgrow hsz hque.own h4; have hf4 := push_frozen hgrow hsz hque.own f4)
      all_goals
        have R := new_step hblk hsz hque hbel hown hgrow hlt
        clear hc4 hf4 hown hgrow hat hlt h4a h4 f4 hblk hque hbel
        go_wp2
        go_roundw
        case rel => exact ⟨k + 1, _, _, by omega, by go_num, R.1, R.2.1, R.2.2⟩
        case measure => simp [intOf]; omega
    · obtain rfl : k = n := by omega
      go_wp2
      go_ret
      exact ⟨rfl, ⟨hsz, Nat.le_refl _, v, ps, hblk, hque⟩, hbel⟩
end Go.Proofs.Qxb6616645a
