import Derived.Test.Qxb6615221aFmtBase
namespace Go.Proofs.Qxb6615221aFmt
open Go.RowKit
set_option linter.unusedVariables false
set_option linter.unusedSimpArgs false

theorem Blk.top (w : World) (o : Obj) (cs : List Value) (t : TypeId) : Blk ((w.alloc o).alloc (.cells cs.toArray t)) (w.heap.size + 1) cs t := by
  unfold Blk
  have := heap_alloc_new (w.alloc o) (.cells cs.toArray t)
  simpa only [World.size_alloc] using this

set_option maxRecDepth 100000 in
set_option maxHeartbeats 1000000 in
theorem new_any (rank d : Int) (n : Nat) (w : World) (h : Dom rank n d) :
    Calls Tryf.prog 10 #[.int .i64 rank, .int .i64 n, .int .i64 d] w fun e w' => ∃ p cs, e = .returned (.pointer (some ⟨p, 0, none⟩)) ∧ w.heap.size ≤ p ∧ Blk w' p cs 38 ∧ cs[18]? = some (.slice none 0 0) ∧ Below w.heap.size w w' := by
  obtain ⟨h1, h2, h3, h4, h5, h6⟩ := h
  obtain ⟨i0, hi, hz0, hz1, hz2⟩ := info_parts info3
  have hmk := run_make_row' (P := Tryf.prog) 34 5 (.int .u8 0) 1 Tryf.underlying34 info5 rfl .i64 .i64 n (by omega) (by omega)
  have hmk2 := run_make_row' (P := Tryf.prog) 35 4 (.bool false) 1 Tryf.underlying35 info4 rfl .i64 .i64 n (by omega) (by omega)
  have e1 : ¬ (n : Int) < 2 := by omega
  have e2 : ¬ (65443 : Int) < n := by omega
  have e3 : ¬ rank < 0 := by omega
  have e4 : ¬ (n : Int) ≤ rank := by omega
  have e5 : ¬ d < 1 := by omega
  have e6 : ¬ 254 < d := by omega
  go_enter Tryf.func10, Tryf.ntmps10
  go_wp2
  go_loopw [8, 55] (fun _ i wr => ∃ (k : Nat) (cs : List Value), k ≤ n ∧ i = .int .i64 k ∧ cs.length = n ∧ Blk wr w.heap.size cs 5 ∧ Below w.heap.size w wr) (fun _ i _ => n - (intOf i).toNat)
  case atStart => exact ⟨0, _, Nat.zero_le _, rfl, by simp [size_madeCells], Blk.made w (.int .u8 0) n 5, (Below.refl _ _).alloc (Nat.le_refl _) _⟩
  case round =>
    obtain ⟨k, cs, hk, rfl, hlen, hblk, hbel⟩ := hrel
    by_cases hkn : k < n
    · have hc := hblk.cell k _ (List.getElem?_eq_getElem (by omega))
      have hf := hblk.frozen k
      by_cases hkr : (k : Int) = rank
      · go_wp2
        go_roundw
        case rel => exact ⟨k + 1, cs, by omega, by go_num, hlen, hblk, hbel⟩
        case measure => simp [intOf]; omega
      · have hkr' : ((k : Int) != rank) = true := by simpa using hkr
        go_wp2
        go_roundw
        case rel => exact ⟨k + 1, _, by omega, by go_num, by simp [hlen], hblk.set k _, hbel.setCell (Nat.le_refl _) _⟩
        case measure => simp [intOf]; omega
    · go_wp2
      clear hblk hlen hkn
      go_loopw [9, 10, 11] (fun v p _ wq => ∃ (pw j : Nat) (xs : List Value), 1 ≤ pw ∧ pw ≤ 196329 ∧ j ≤ pw ∧ p = .int .i64 pw ∧ wq.ownsRow w.heap.size 3 1 v j xs ∧ Below w.heap.size w wq) (fun _ p _ _ => n - (intOf p).toNat)
      case atStart => exact ⟨1, 0, [], by omega, by omega, by omega, rfl, World.ownsRow_nil _ _ _ _, hbel⟩
      case round =>
        clear hbel
        obtain ⟨pw, j, xs, hp1, hp2, hj, rfl, hown, hbel⟩ := hrel
        by_cases hpn : pw < n
        · have hsz := hbel.size
          go_wp2_with (at_builtin; refine wpList_append_own _ rfl (.tmp 86) (.tmp 88) 22 rfl w.heap.size 3 i0 (.int .i64 0) 1 8 Tryf.underlying22 hi hz0 hz1 hz2 rfl (by decide) _ _ _ rfl (hown.alloc _) ⟨wr.heap.size, 0, none⟩ 1 1 [_] rfl rfl (one_cell _ _ _) (by simp [Value.oneCell']) (by unfold maxLen; omega) (by omega) (by simp; omega) ?_; intro v1 w1 hown1 hgrow1 _; have hbel3 := Below.grown (hbel.alloc hsz _) hgrow1 (by simp; omega) (fun q hq => (hown.lt q hq).1); clear hgrow1)
          all_goals
            go_roundw
            case rel => exact ⟨pw * 3, j + 1, _, by omega, by omega, by omega, by go_num, hown1, hbel3⟩
            case measure => simp [intOf]; omega
        · obtain ⟨av, nv, cv, rfl⟩ : ∃ a m c, u9 = .slice a m c := by
            rcases hown.2 with ⟨h, _⟩ | ⟨g, cap, cur, h, _⟩
            · exact ⟨_, _, _, h⟩
            · exact ⟨_, _, _, h⟩
          go_wp2
          go_ret
          refine ⟨_, _, rfl, ?_, Blk.top _ _ _ _, rfl, (hbel.alloc hbel.size _).alloc ?_ _⟩
          · have := hbel.size
            simp
            omega
          · have := hbel.size
            simp
            omega
end Go.Proofs.Qxb6615221aFmt
