import Derived.Test.Qxb6616645aTail
import Derived.WalkSmall
namespace Go.Proofs.Qxb6616645a
open Go.RowKit
set_option linter.unusedSimpArgs false
set_option linter.unusedVariables false

theorem one_cell (W : World) (u : Value) : ∀ j x, [u][j]? = some x → (W.alloc (.cells #[u] 4)).cell? ((⟨W.heap.size, 0, none⟩ : Addr).add j) = some x := by
  intro j x hj
  match j, hj with
  | 0, hj => simp at hj; subst hj; simp [Addr.add]

set_option maxHeartbeats 1000000 in
theorem tail_main (r : Int) (a : Option Addr) (len cap : Nat) (B : Nat → Bool) (w : World) (hB : IsB w a len cap B) (h1 : len ≤ 65536) (hr1 : 1 ≤ r) (hr2 : r ≤ 9223372036854775807) :
    Calls Try.prog 4 #[.int .i64 r, .slice a len cap] w fun e w' => e = .returned (.bool true) ∧ Below w.heap.size w w' := by
  have hle := hB.le
  have hc := bytes12_any r a len cap w hle
  have h2 : (len : Int) ≤ 1048576 := by omega
  have h1' : ¬ ((65536 : Int) < len) := by omega
  simp only [h2, decide_true] at hc
  have HC := kept hc
  have g1 : ¬ r < 1 := by omega
  obtain ⟨i0, hi, hz0, hz1, hz2⟩ := info_parts info4
  clear hc h2
  have hB' := hB
  go_enter Try.func4, Try.ntmps4
  go_wp2_with (first
    | (go_at_call 12; refine Calls.mono (Hid.out HC) ?_; rintro e w' ⟨rfl, hw⟩; subst w')
    | (at_make; refine wpList_make_own _ rfl _ (.tmp 26) 22 rfl w.heap.size 4 i0 (.bool false) 1 Try.underlying22 hi hz0 hz1 _ _ _ (len + 1) rfl rfl (by omega) (by rw [hz2]; omega) (by unfold maxLen; omega) (Nat.le_refl _) ?_; intro w1 hown1 hgrow1; have hb1 := Below.grown (Below.refl w.heap.size w) hgrow1 (Nat.le_refl _) (by simp); clear hgrow1)
    | (at_builtin; refine wpList_append_fits _ rfl (.tmp 28) (.tmp 29) 22 rfl w.heap.size 4 i0 1 Try.underlying22 hi hz1 w.heap.size 0 (len + 1) [] rfl (hown1.alloc _) ⟨w1.heap.size, 0, none⟩ 1 1 [.bool true] rfl rfl (one_cell _ _) (bools_one 1 fun _ => true) (by omega) ?_; intro w2 hown2 hgrow2; have hb2 := Below.grown (hb1.alloc hb1.size (.cells #[.bool true] 4)) hgrow2 (by simp; have := hb1.size; omega) (by simp); simp only [Nat.zero_add, List.nil_append] at hown2; clear hgrow2 hown1)
    | (at_builtin; refine wpList_append_fits_any _ rfl (.tmp 31) (.tmp 32) 22 rfl w.heap.size 4 i0 1 Try.underlying22 hi hz1 w.heap.size 1 (len + 1) [.bool true] rfl hown2 a len cap (bools len B) rfl (by rw [bools_length, Nat.mul_one]) hB.none_len (tail_src hB' hb2) (bools_one _ _) (by omega) ?_; intro w3 hown3 hgrow3; have hb3 := Below.grown hb2 hgrow3 hb2.size (by simp); clear hgrow3 hown2))
  have hrd1 : Rd (w3.alloc (.cells #[.bool true] 4)) (some ⟨w.heap.size, 0, none⟩) (1 + len) (front B) := Rd.owned (by rw [bools_front1] at hown3; exact hown3.alloc _)
  have hrd2 := Rd.head w3
  have hb4 := hb3.alloc hb3.size (.cells #[.bool true] 4)
  clear hown3 hb3 hb2 hb1
  obtain ⟨W4, hW4⟩ : ∃ W, W = w3.alloc (.cells #[.bool true] 4) := ⟨_, rfl⟩
  rw [← hW4] at hrd1 hrd2 hb4 ⊢
  clear hW4
  refine (new_at r _ _ _ (front B) _ (by omega) hrd1).mono ?_
  rintro e w5 ⟨bm1, hi1, rfl, hbm1, hm1, hb5⟩
  have hrd2' := hrd2.below hb5 hbm1
  clear hrd1 hrd2
  go_wp2_with fail
  refine (new_at r _ _ _ (fun _ => true) _ (by omega) hrd2').mono ?_
  rintro e w6 ⟨bm2, hi2, rfl, hbm2, hm2, hb6⟩
  have l1 := hm1.le
  have hm1' := hm1.below hb6 (by omega)
  have hbw6 : Below w.heap.size w w6 := (hb4.trans (hb5.mono (by have := hb4.size; omega))).trans (hb6.mono (by have := hb4.size; have := hb5.size; omega))
  have hs6 : w.heap.size ≤ bm1 := by have := hb4.size; omega
  have hs6' : hi1 ≤ bm2 := by omega
  have hs7 : w.heap.size ≤ bm2 := by have := hm1.lt; omega
  clear hb4 hb5 hb6 hrd2' hm1 hbm1 hbm2 l1
  obtain ⟨n1, xs1, n2, xs2, hc1, hc2, rfl, hj, hn2⟩ := pick r len B
  have HJ := kept hj
  have HR1 := kept (run_once (r == 1) (n2 + len) xs1 hr1 hr2 hm1' rfl (by omega) hc1)
  have hm2k := kept hm2
  have HC2 := kept hc2
  clear hm1' hm2 hc1 hc2 hj
  go_wp2_with fail
  refine Calls.mono HR1.out ?_
  rintro e w7 ⟨rfl, hw7, hm1⟩
  have HR2 := kept (run_once (r == 1) n2 xs2 hr1 hr2 (hm2k.out.within hw7 (.inr hs6')) rfl (by omega) HC2.out)
  clear HR1 hm2k HC2
  go_wp2_with fail
  refine Calls.mono HR2.out ?_
  rintro e w8 ⟨rfl, hw8, hm2⟩
  have hm1' := hm1.within hw8 (.inl hs6')
  have hbw8 : Below w.heap.size w w8 := (hbw6.trans (hw7.below.mono hs6)).trans (hw8.below.mono hs7)
  clear HR2 hm1 hw7 hw8 hbw6
  go_wp2_with fail
  refine (readers_mx hm1').mono ?_
  rintro e w' ⟨rfl, hw⟩; subst w'
  go_wp2_with fail
  refine (readers_mx hm2).mono ?_
  rintro e w' ⟨rfl, hw⟩; subst w'
  go_wp2_with fail
  refine (writing_mx hm1').mono ?_
  rintro e w' ⟨rfl, hw⟩; subst w'
  go_wp2_with fail
  refine (writing_mx hm2).mono ?_
  rintro e w' ⟨rfl, hw⟩; subst w'
  go_wp2_with fail
  refine (queue_rd hm2 (by omega)).mono ?_
  rintro e w9 ⟨rfl, hrd3, hlt9, hb9⟩
  have hm1 := hm1'.below hb9 hm1'.le
  have hs9 : w.heap.size ≤ w9.heap.size := by have := hbw8.size; omega
  have hb9' : Below w.heap.size w w9 := hbw8.trans (hb9.mono hbw8.size)
  clear hm1' hm2 hbw8 hb9 hlt9
  go_wp2_with (first
    | (at_make; refine wpList_make_own _ rfl _ (.tmp 59) 22 rfl w9.heap.size 4 i0 (.bool false) 1 Try.underlying22 hi hz0 hz1 _ _ _ (n2 + len) rfl rfl (by omega) (by rw [hz2]; omega) (by unfold maxLen; omega) (Nat.le_refl _) ?_; intro w10 hown10 hgrow10; have hb10 := Below.grown (Below.refl w9.heap.size w9) hgrow10 (Nat.le_refl _) (by simp); have hrd10 := hrd3.below hb10 (Nat.le_refl _); clear hgrow10)
    | (at_builtin; refine wpList_append_fits _ rfl (.tmp 61) (.tmp 62) 22 rfl w9.heap.size 4 i0 1 Try.underlying22 hi hz1 w9.heap.size 0 (n2 + len) [] rfl hown10 ⟨w8.heap.size, 0, none⟩ n2 n2 (bools n2 xs2) rfl (by rw [bools_length, Nat.mul_one]) hrd10.src2 (bools_one _ _) (by omega) ?_; intro w11 hown11 hgrow11; have hb11 := Below.grown hb10 hgrow11 hb10.size (by simp); simp only [Nat.zero_add, List.nil_append] at hown11; clear hgrow11 hown10)
    | (at_builtin; refine wpList_append_fits_any _ rfl (.tmp 64) (.tmp 65) 22 rfl w9.heap.size 4 i0 1 Try.underlying22 hi hz1 w9.heap.size n2 (n2 + len) (bools n2 xs2) rfl hown11 a len cap (bools len B) rfl (by rw [bools_length, Nat.mul_one]) hB.none_len (tail_src hB' (hb9'.trans (hb11.mono hs9))) (bools_one _ _) (by omega) ?_; intro w12 hown12 hgrow12; have hb12 := Below.grown hb11 hgrow12 hb11.size (by simp); have hrd12 := Rd.owned (by rw [HJ.out] at hown12; exact hown12); have hm12 := hm1.below hb12 hm1.le; clear hgrow12 hown11 hown12)
    | (go_at_call 11; refine (queue_rd hm12 (by omega)).mono ?_; rintro e w13 ⟨rfl, hrd13, hlt13, hb13⟩)
    | (go_at_call 10; refine (beq_gen _ _ _ _ _ _ _ (by unfold maxLen; omega) hrd13 (hrd12.below hb13 (Nat.le_refl _))).mono ?_; rintro e w14 ⟨rfl, kk, rfl⟩))
  go_ret
  refine ⟨rfl, below_drewN (hb9'.trans ((hb12.mono hs9).trans (hb13.mono (by have := hb12.size; omega)))) kk⟩
end Go.Proofs.Qxb6616645a
