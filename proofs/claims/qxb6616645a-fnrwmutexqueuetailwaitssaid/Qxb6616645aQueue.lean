import Derived.Test.Qxb6616645aEq
namespace Go.Proofs.Qxb6616645a
open Go.RowKit

theorem info4 : (Try.prog.info? 4).map (fun i => (i.zero, i.size, i.bytes)) = some (some (.bool false), 1, 1) := by kernel_rfl

def bools (n : Nat) (xs : Nat → Bool) : List Value := (List.range n).map fun i => .bool (xs i)
theorem bools_length (n : Nat) (xs : Nat → Bool) : (bools n xs).length = n := by simp [bools]
theorem bools_succ (n : Nat) (xs : Nat → Bool) : bools (n + 1) xs = bools n xs ++ [.bool (xs n)] := by simp [bools, List.range_succ]
theorem bools_get {n : Nat} {xs : Nat → Bool} {j : Nat} (h : j < n) : (bools n xs)[j]? = some (.bool (xs j)) := by simp [bools, h]
theorem bools_one (n : Nat) (xs : Nat → Bool) : ∀ u ∈ bools n xs, u.oneCell' = true := by
  intro u hu
  obtain ⟨_, _, rfl⟩ := List.mem_map.1 hu
  rfl

set_option maxHeartbeats 400000 in
theorem queue_any (b n cap : Nat) (ao : Option Addr) (c0 c1 c2 c3 : Value) (xs : Nat → Bool) (w : World) (hn : n ≤ 1099511627776)
    (hb : Blk w b [c0, c1, c2, c3, .slice ao n cap] 41)
    (hq : ∀ i, i < n → ∃ g p, ao = some ⟨g, 0, none⟩ ∧ w.cell? ⟨g, i, none⟩ = some (.pointer (some ⟨p, 0, none⟩)) ∧ w.cell? ⟨p, 0, none⟩ = some (.bool (xs i))) :
    Calls Try.prog 11 #[.pointer (some ⟨b, 0, none⟩)] w fun e w' => e = .returned (.slice (some ⟨w.heap.size, 0, none⟩) n n) ∧
      w'.ownsRow w.heap.size 4 1 (.slice (some ⟨w.heap.size, 0, none⟩) n n) n (bools n xs) ∧ Below w.heap.size w w' := by
  obtain ⟨i0, hi, hz0, hz1, hz2⟩ := info_parts info4
  have h4 := hb.cell 4 _ rfl
  have hlt := hb.lt
  clear hb
  go_enter Try.func11, Try.ntmps11
  go_wp2_with (at_make; refine wpList_make_own _ rfl _ _ 22 rfl w.heap.size 4 i0 (.bool false) 1 Try.underlying22 hi hz0 hz1 _ _ _ n rfl rfl rfl (by rw [hz2]; omega) (by unfold maxLen; omega) (Nat.le_refl _) ?_; intro w1 hown1 hgrow1; have h5 := hgrow1.cell h4 (by simp); have hbel := Below.grown (Below.refl w.heap.size w) hgrow1 (Nat.le_refl _) (by simp); clear hgrow1 h4)
  go_loopw [3, 17] (fun v i wr => ∃ k : Nat, k ≤ n ∧ i = .int .i64 k ∧ v = .slice (some ⟨w.heap.size, 0, none⟩) k n ∧ wr.ownsRow w.heap.size 4 1 (.slice (some ⟨w.heap.size, 0, none⟩) k n) k (bools k xs) ∧ Below w.heap.size w wr)
    (fun _ i _ => n - (intOf i).toNat)
  case atStart => exact ⟨0, Nat.zero_le _, rfl, rfl, hown1, hbel⟩
  case round =>
    clear hown1 hbel h5
    obtain ⟨k, hk, rfl, rfl, hown, hbel⟩ := hrel
    by_cases hkn : k < n
    · obtain ⟨g, p, rfl, hg, hp⟩ := hq k hkn
      have hg' := (hbel.cell (p := ⟨g, k, none⟩) (World.block_lt_of_cell? w ⟨g, k, none⟩ hg)).trans hg
      have hp' := (hbel.cell (p := ⟨p, 0, none⟩) (World.block_lt_of_cell? w ⟨p, 0, none⟩ hp)).trans hp
      have hsz := hbel.size
      have hown2 := hown.alloc (.cells #[.bool (xs k)] 4)
      have hbel2 := hbel.alloc hsz (.cells #[.bool (xs k)] 4)
      clear hg hp hq hown hbel
      go_wp2_with (at_builtin; refine wpList_append_fits _ rfl (.tmp 21) (.tmp 26) 22 rfl w.heap.size 4 i0 1 Try.underlying22 hi hz1 w.heap.size k n (bools k xs) rfl hown2 ⟨wr.heap.size, 0, none⟩ 1 1 [.bool (xs k)] rfl rfl ?_ ?_ (by omega) ?_)
      · intro j u hj
        match j, hj with
        | 0, hj => simp at hj; subst hj; simp [Addr.add]
      · intro u hu; simp at hu; subst hu; rfl
      · intro w2 hown3 hgrow
        have hbel3 := Below.grown hbel2 hgrow (by simp; omega) (by simp)
        clear hgrow hbel2 hown2
        go_wp2
        go_roundw
        case rel => exact ⟨k + 1, by omega, by go_num, rfl, by rw [bools_succ]; exact hown3, hbel3⟩
        case measure => simp [intOf]; omega
    · obtain rfl : k = n := by omega
      go_wp2
      go_ret
      exact ⟨rfl, hown, hbel⟩
end Go.Proofs.Qxb6616645a
