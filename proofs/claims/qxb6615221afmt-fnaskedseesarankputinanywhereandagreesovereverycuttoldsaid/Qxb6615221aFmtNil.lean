import Derived.Test.Qxb6615221aFmtLaw
namespace Go.Proofs.Qxb6615221aFmt
open Go.RowKit
set_option linter.unusedVariables false
set_option linter.unusedSimpArgs false

set_option maxRecDepth 100000 in
set_option maxHeartbeats 4000000 in
theorem law_nil (rank d r : Int) (n : Nat) (w : World) (hdom : Dom rank n d) (hr0 : 0 ≤ r) (hrn : r < n) :
    Calls Tryf.prog 3 #[.int .i64 rank, .int .i64 n, .int .i64 d, .slice none 0 0, .int .i64 r, .int .i64 0, .int .i64 0] w fun e w' => e = .returned (.bool true) ∧ Below w.heap.size w w' := by
  obtain ⟨i0, hi0, hz0, hz1, hz2⟩ := info_parts info3
  have HB := hide (bytes_any rank n d r 0 0 none 0 0 w (by unfold maxLen; omega))
  have HD := hide hdom
  have hHD := hide (dom_any rank n d w)
  have e3 : ¬ r < 0 := by omega
  have e4 : ¬ (n : Int) ≤ r := by omega
  clear hdom
  go_enter Tryf.func3, Tryf.ntmps3
  go_wp2_with (first
    | (go_at_call 4; refine Calls.mono (Hid.out HB) ?_; rintro e w' ⟨rfl, hw⟩; subst w'; rw [decide_eq_true (by omega)])
    | (go_at_call 5; refine Calls.mono (Hid.out hHD) ?_; rintro e w' ⟨rfl, hw⟩; subst w'; rw [decide_eq_true HD.out]))
  clear HB hHD
  go_loop [15] (fun j => ∃ q : Nat, q ≤ 0 ∧ j = .int .i64 q) (fun j => 0)
  case atStart => exact ⟨0, Nat.zero_le _, rfl⟩
  case round =>
    obtain ⟨q, hq, rfl⟩ := hrel
    obtain rfl : q = 0 := by omega
    clear hq
    go_wp2_with fail
    refine (clone_nil w).mono ?_
    rintro e w1 ⟨rfl, hw⟩
    subst w1
    go_wp2_with (first
      | (at_make; refine wpList_make_own _ rfl _ (.tmp 94) 22 rfl w.heap.size 3 i0 (.int .i64 0) 1 Tryf.underlying22 hi0 hz0 hz1 _ _ _ 0 rfl rfl (by omega) (by rw [hz2]; omega) (by unfold maxLen; omega) (Nat.le_refl _) ?_; intro w2 hown2 hgrow2; have hb2 := Below.grown (Below.refl w.heap.size w) hgrow2 (Nat.le_refl _) (by simp); clear hgrow2))
    have hbV := hb2
    clear hown2 hb2
    go_loop [16, 17] (fun v j => ∃ q : Nat, q ≤ 0 ∧ j = .int .i64 q ∧ v = .slice (some ⟨w.heap.size, 0, none⟩) 0 0) (fun _ j => 0)
    case atStart => exact ⟨0, Nat.zero_le _, rfl, rfl⟩
    case round =>
      obtain ⟨q, hq, rfl, rfl⟩ := hrel
      obtain rfl : q = 0 := by omega
      clear hq
      go_wp2_with fail
      refine (with_any rank d n 0 _ _ [] _ HD.out (Rd.nil _ _) rfl (by omega)).mono ?_
      rintro e W1 ⟨p1, rfl, hp1, hB1⟩
      go_wp2_with fail
      refine (zzasked_any p1 r [] W1 hp1 (by simp)).mono ?_
      rintro e W2 ⟨rfl, hB2⟩
      rw [decide_eq_false (by simp)]
      have hb2 := hbV.trans ((hB1.trans (hB2.mono hB1.size)).mono hbV.size)
      clear hp1 hB1 hB2 hbV
      go_wp2_with fail
      refine (with_any rank d n 0 _ _ [] _ HD.out (Rd.nil _ _) rfl (by omega)).mono ?_
      rintro e W3 ⟨p1, rfl, hp1, hB1⟩
      go_wp2_with fail
      refine (zzasked_any p1 r [] W3 hp1 (by simp)).mono ?_
      rintro e W4 ⟨rfl, hB2⟩
      rw [decide_eq_false (by simp)]
      have hb4 := hb2.trans ((hB1.trans (hB2.mono hB1.size)).mono hb2.size)
      clear hp1 hB1 hB2 hb2
      go_wp2_with fail
      refine (with_any rank d n 0 _ _ [] _ HD.out (Rd.nil _ _) rfl (by omega)).mono ?_
      rintro e W5 ⟨p1, rfl, hp1, hB1⟩
      go_wp2_with fail
      refine (zzasked_any p1 r [] W5 hp1 (by simp)).mono ?_
      rintro e W6 ⟨rfl, hB2⟩
      rw [decide_eq_false (by simp)]
      have hb6 := hb4.trans ((hB1.trans (hB2.mono hB1.size)).mono hb4.size)
      clear hp1 hB1 hB2 hb4
      go_wp2_with fail
      refine (with_any rank d n 0 _ _ [] _ HD.out (Rd.nil _ _) rfl (by omega)).mono ?_
      rintro e W7 ⟨p1, rfl, hp1, hB1⟩
      go_wp2_with fail
      refine (zzasked_any p1 r [] W7 hp1 (by simp)).mono ?_
      rintro e W8 ⟨rfl, hB2⟩
      rw [decide_eq_false (by simp)]
      have hb8 := hb6.trans ((hB1.trans (hB2.mono hB1.size)).mono hb6.size)
      clear hp1 hB1 hB2 hb6
      by_cases hq : r = rank
      · have hq' : (r == rank) = true := by simpa using hq
        clear hq
        go_wp2
        go_ret
        exact ⟨rfl, hb8⟩
      · have hq' : (r == rank) = false := by simpa using hq
        clear hq
        go_wp2_with (first
          | (at_make; refine wpList_make_own _ rfl _ (.tmp 167) 22 rfl W8.heap.size 3 i0 (.int .i64 0) 1 Tryf.underlying22 hi0 hz0 hz1 _ _ _ 1 rfl rfl (by omega) (by rw [hz2]; omega) (by unfold maxLen; omega) (Nat.le_refl _) ?_; intro w9 hown9 hgrow9; have hb9 := Below.grown (Below.refl W8.heap.size W8) hgrow9 (Nat.le_refl _) (by simp); clear hgrow9)
          | (at_builtin; refine wpList_append_fits_any _ rfl (.tmp 169) (.tmp 172) 22 rfl W8.heap.size 3 i0 1 Tryf.underlying22 hi0 hz1 W8.heap.size 0 1 [] rfl hown9 _ 0 _ [] rfl rfl (by first | exact fun _ => ⟨rfl, rfl⟩ | exact fun h => by cases h) (fun _ _ j u h => by simp at h) (fun u h => by simp at h) (by omega) ?_; intro w10 hown10 hgrow10; have hb10 := Below.grown hb9 hgrow10 hb9.size (by simp); clear hgrow10; simp only [Nat.zero_add, List.nil_append] at hown10)
          | (at_builtin; refine wpList_append_fits _ rfl (.tmp 174) (.tmp 176) 22 rfl W8.heap.size 3 i0 1 Tryf.underlying22 hi0 hz1 W8.heap.size 0 1 [] rfl (hown10.alloc _) ⟨w10.heap.size, 0, none⟩ 1 1 [.int .i64 r] rfl rfl (one_cell _ _ _) (ints_one [r]) (by omega) ?_; intro w11 hown11 hgrow11; have hb11 := Below.grown (hb10.alloc hb10.size (.cells #[.int .i64 r] 3)) hgrow11 (by simp; have := hb10.size; omega) (by simp); clear hgrow11; simp only [Nat.zero_add, List.nil_append] at hown11)
          | (at_builtin; refine wpList_append_fits_any _ rfl (.tmp 178) (.tmp 181) 22 rfl W8.heap.size 3 i0 1 Tryf.underlying22 hi0 hz1 W8.heap.size 1 1 [.int .i64 r] rfl hown11 _ 0 _ [] rfl rfl (by first | exact fun _ => ⟨rfl, rfl⟩ | exact fun h => by cases h) (fun _ _ j u h => by simp at h) (fun u h => by simp at h) (by omega) ?_; intro w12 hown12 hgrow12; have hb12 := Below.grown hb11 hgrow12 hb11.size (by simp); clear hgrow12))
        have HO := hide (Rd.owned3 (a := []) (b := []) hown12)
        have hb10' := hb8.trans (hb12.mono hb8.size)
        clear hown9 hown10 hown11 hown12 hb9 hb10 hb11 hb12 hb8
        refine (with_any rank d n 1 _ _ [r] w12 HD.out HO.out rfl (by omega)).mono ?_
        rintro e W9 ⟨p1, rfl, hp1, hB1⟩
        go_wp2_with fail
        refine (zzasked_any p1 r [r] W9 hp1 (by simp)).mono ?_
        rintro e W10 ⟨rfl, hB2⟩
        rw [decide_eq_true (by simp)]
        have hb12 := hb10'.trans ((hB1.trans (hB2.mono hB1.size)).mono hb10'.size)
        clear hp1 hB1 hB2 hb10'
        go_wp2
        go_ret
        exact ⟨rfl, hb12⟩
end Go.Proofs.Qxb6615221aFmt
