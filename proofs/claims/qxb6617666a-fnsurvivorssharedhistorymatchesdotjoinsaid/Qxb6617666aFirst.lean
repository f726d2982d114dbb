import Derived.Test.Qxb6617666aCopy
namespace Go.Proofs.Qxb6617666a
open Go.RowKit
set_option linter.unusedVariables false
set_option linter.unusedSimpArgs false

theorem info43 : (Try.prog.info? 43).map (fun i => (i.zero, i.size, i.bytes)) = some (some (.agg #[.string ByteArray.empty, .pointer none, .int .i64 0]), 3, 32) := by kernel_rfl

/-- What 'make([]list, n)' lays. -/
def zeros (n : Nat) : List Value := (madeCells #[.string ByteArray.empty, .pointer none, .int .i64 0] (n * 3)).toList
theorem zeros_length (n : Nat) : (zeros n).length = n * 3 := by simp [zeros, size_madeCells]
theorem mk_nodes (n : Nat) (h : n ≤ 1099511627776) (w : World) : (Instr.makeSlice 48 (.int .i64 n) (.int .i64 n)).run Try.prog w = .ok (.slice (some ⟨w.heap.size, 0, none⟩) n n) (w.alloc (.cells (zeros n).toArray 43)) := by
  obtain ⟨i, hi, hz, hs, hb⟩ := info_parts info43
  have hr := run_make (P := Try.prog) w 48 43 i _ Try.underlying48 hi hz .i64 .i64 n n (by omega) (Int.le_refl _) (by rw [hb]; omega) (by omega)
  rw [hs] at hr
  simpa [zeros, Value.cells] using hr

set_option maxHeartbeats 400000 in
theorem first_any (u : Option Addr) (k : Nat) (l : List ByteArray) (w : World) (hl : Lst w u l) (h1 : l.length ≤ 1099511627776) (hk : k ≤ 1099511627776) :
    Calls Try.prog 20 #[.pointer u, .int .i64 k] w fun e w' => ∃ u', e = .returned (.pointer u') ∧ Lst w' u' (l.take k) ∧ Below w.heap.size w w' := by
  by_cases h0 : k = 0
  · subst h0
    go_enter Try.func20, Try.ntmps20
    go_wp2
    go_ret
    exact ⟨none, rfl, by simp [Lst], Below.refl _ _⟩
  have H := hide (len_any u l w hl)
  have h0' : ¬ (k : Int) ≤ 0 := by omega
  by_cases hle : l.length ≤ k
  · have hle' : (l.length : Int) ≤ k := by omega
    have HL := hide hl
    clear hl
    go_enter Try.func20, Try.ntmps20
    go_wp2_with (go_at_call 16; refine Calls.mono (Hid.out H) ?_; rintro e w' ⟨rfl, hw⟩; subst w')
    go_ret
    exact ⟨u, rfl, by rw [List.take_of_length_le hle]; exact HL.out, Below.refl _ _⟩
  · have hle' : ¬ (l.length : Int) ≤ k := by omega
    have hmk := mk_nodes k hk
    have HC := hide (copy_any u w.heap.size k l (zeros k) w _ hl (by omega) ((Below.refl w.heap.size w).alloc (Nat.le_refl _) (.cells (zeros k).toArray 43)) (Nat.le_refl _) (Blk.new w (zeros k) 43) (zeros_length k) hk)
    have hkp : (0 : Int) < k := by omega
    clear hl
    go_enter Try.func20, Try.ntmps20
    go_wp2_with (first
      | (go_at_call 16; refine Calls.mono (Hid.out H) ?_; rintro e w' ⟨rfl, hw⟩; subst w')
      | (go_at_call 21; refine Calls.mono (Hid.out HC) ?_; rintro e w1 ⟨rfl, hbut, cs', hb', hl', hn'⟩))
    go_ret
    refine ⟨_, rfl, ?_, ((Below.refl w.heap.size w).alloc (Nat.le_refl _) (.cells (zeros k).toArray 43)).trans (hbut.below (Nat.le_refl _))⟩
    have := nodes_list hb' hn' (by omega) k 0 (by omega)
    rw [if_neg h0] at this
    simpa using this
end Go.Proofs.Qxb6617666a
