import Derived.Test.Qxb6616645aLeave2
namespace Go.Proofs.Qxb6616645a
open Go.RowKit
set_option linter.unusedSimpArgs false
set_option linter.unusedVariables false

set_option maxHeartbeats 1000000 in
theorem leave_main (r k : Int) (a : Option Addr) (len cap : Nat) (B : Nat → Bool) (w : World) (hB : IsB w a len cap B)
    (h1 : len ≤ 65536) (hr1 : 1 ≤ r) (hr2 : r ≤ 65536) (hk1 : 1 ≤ k) (hk2 : k ≤ r) (hx : 0 < len → B 0 = true) :
    Calls Try.prog 3 #[.int .i64 r, .slice a len cap, .int .i64 k] w fun e w' => e = .returned (.bool true) ∧ Below w.heap.size w w' := by
  have hle := hB.le
  have hc := bytes5_any r k a len cap w hle
  have h2 : (len : Int) ≤ 1048576 := by omega
  have h1' : ¬ ((65536 : Int) < len) := by omega
  simp only [h2, decide_true] at hc
  have HC := kept hc
  have hmk := run_make_row' (P := Try.prog) 22 4 (.bool false) 1 Try.underlying22 info4 rfl .i64 .i64 len (by omega) (by omega)
  have g1 : ¬ r < 1 := by omega
  have g2 : ¬ 65536 < r := by omega
  have g3 : ¬ k < 1 := by omega
  have g4 : ¬ r < k := by omega
  have HX := kept hx
  clear hc h2 hx
  have HG := kept (show (w.alloc (.cells (madeCells #[.bool false] len) 4)).heap[w.heap.size]? = some (.cells (madeCells #[.bool false] len).toList.toArray 4 (0, 0)) by simpa using heap_alloc_new w _)
  have hrd := hB.rd
  by_cases hl : 0 < len
  case' pos =>
    obtain ⟨b, o, rfl, hcell⟩ := hrd.one hl
    have h0 := hcell 0 hl
    rw [HX.out hl, Nat.add_zero] at h0
    have hl' : (0 : Int) < len := by omega
    clear hcell hB
    go_enter Try.func3, Try.ntmps3
    go_wp2_with (first
      | (go_at_call 5; refine Calls.mono (Hid.out HC) ?_; rintro e w' ⟨rfl, hw⟩; subst w')
      | (refine wpList_copy_splice rfl (.tmp 47) (.tmp 48) 22 22 rfl 4 Try.underlying22 (by kernel_rfl) _ _ _ _ _ _ rfl rfl w.heap.size 0 (madeCells #[.bool false] len).toList 4 HG.out (bools len B) (by simp [bools_length]) (hrd.src _ _) (by simp [bools_length, size_madeCells]) (bools_one _ _) w.heap.size w ((Below.refl _ _).alloc (Nat.le_refl _) _) (Nat.le_refl _) ?_; intro W HG2 hbel))
    have hrd2 := Rd.made HG2
    have hb0 := hbel
    clear HG2 hrd h0
  case' neg =>
    have hl' : ¬ (0 : Int) < len := by omega
    cases a
  case' neg.none =>
    clear hB
    go_enter Try.func3, Try.ntmps3
    go_wp2_with (go_at_call 5; refine Calls.mono (Hid.out HC) ?_; rintro e w' ⟨rfl, hw⟩; subst w')
    have hrd2 := hrd
    have hb0 := Below.refl w.heap.size w
    clear hrd
  case' neg.some x =>
    clear hB
    go_enter Try.func3, Try.ntmps3
    go_wp2_with (first
      | (go_at_call 5; refine Calls.mono (Hid.out HC) ?_; rintro e w' ⟨rfl, hw⟩; subst w')
      | (refine wpList_copy_splice rfl (.tmp 47) (.tmp 48) 22 22 rfl 4 Try.underlying22 (by kernel_rfl) _ _ _ _ _ _ rfl rfl w.heap.size 0 (madeCells #[.bool false] len).toList 4 HG.out (bools len B) (by simp [bools_length]) (hrd.src _ _) (by simp [bools_length, size_madeCells]) (bools_one _ _) w.heap.size w ((Below.refl _ _).alloc (Nat.le_refl _) _) (Nat.le_refl _) ?_; intro W HG2 hbel))
    have hrd2 := Rd.made HG2
    have hb0 := hbel
    clear HG2 hrd
  all_goals
    clear HG HC hmk
    refine (new_at r _ _ _ B _ (by omega) hrd2).mono ?_
    rintro e w1 ⟨bm, hi, rfl, hbm, hmx, hb1⟩
    have hst : St w1 bm hi r len B 0 := ⟨fun h => absurd h.1 (by omega), fun _ => by rw [Int.sub_zero]; exact hmx⟩
    clear hmx
    go_wp2_with fail
    go_loopw [9] (fun i wr => ∃ j : Nat, 1 ≤ (j : Int) ∧ (j : Int) ≤ k + 1 ∧ i = .int .i64 j ∧ Within bm hi w1 wr ∧ St wr bm hi r len B ((j : Int) - 1)) (fun i _ => (k + 1 - intOf i).toNat)
    case atStart => exact ⟨1, by omega, by omega, rfl, Within.refl _ _ _, hst⟩
    case round =>
      clear hst
      obtain ⟨j, hj1, hj2, rfl, hwi, hst⟩ := hrel
      by_cases hjk : (j : Int) ≤ k
      · by_cases hz : r - (j : Int) = 0
        case' pos => have hbz : (r - (j : Int) == 0) = true := by simp [hz]
        case' neg => have hbz : (r - (j : Int) == 0) = false := by simp [hz]
        all_goals
          have HS := kept (st_at (decide (r - (j : Int) = 0 ∧ 0 < len)) hj1 (by omega) hr2 hst HX.out rfl)
          simp only [hz, hl, and_true, true_and, and_self, false_and, and_false, decide_true, decide_false] at HS
          clear hst hz
          go_wp2_with (first
            | (go_at_call 7; refine Calls.mono HS.out ?_; rintro e w2 ⟨rfl, hw2, hst2, n', xs', hmx2⟩)
            | (go_at_call 8; refine (readers_mx hmx2).mono ?_; rintro e w' ⟨rfl, hw⟩; subst w')
            | (go_at_call 9; refine (writing_mx hmx2).mono ?_; rintro e w' ⟨rfl, hw⟩; subst w'))
          go_roundw
          case rel => exact ⟨j + 1, by omega, by omega, by go_num, hwi.trans hw2, by rw [show ((j + 1 : Nat) : Int) - 1 = (j : Int) by omega]; exact hst2⟩
          case measure => simp [intOf]; omega
      · have ejk : (j : Int) - 1 = k := by omega
        rw [ejk] at hst
        have hjk2 : k < (j : Int) := by omega
        clear ejk hjk
        by_cases hrk : r = k
        case' pos => subst hrk
        case' neg => have hbk : (r == k) = false := by simp [hrk]
        all_goals
          first
          | (have hmx := hst.1 ⟨rfl, hl⟩)
          | (have hmx := hst.2 (fun h => hl h.2))
          | (have hmx := hst.2 (fun h => hrk h.1.symm))
          clear hst
          have hbw : bm ≤ wr.heap.size := Nat.le_trans (Nat.le_of_lt hmx.lt) hmx.le
          go_wp2_with (first
            | (go_at_call 11; refine (queue_rd hmx (by omega)).mono ?_; rintro e w2 ⟨rfl, hrd3, hlt2, hb2⟩)
            | (go_at_call 10; refine (beq_gen _ _ _ _ _ _ _ (by unfold maxLen; omega) hrd3 (by first | exact cells_chain hrd2 hbm hb1 hwi hb2 hbw | exact (cells_chain hrd2 hbm hb1 hwi hb2 hbw).tail hl)).mono ?_; rintro e w3 ⟨rfl, kk, rfl⟩))
          all_goals
            go_ret
            exact ⟨rfl, below_chain hb0 hbm hb1 hwi hb2 kk⟩
end Go.Proofs.Qxb6616645a
