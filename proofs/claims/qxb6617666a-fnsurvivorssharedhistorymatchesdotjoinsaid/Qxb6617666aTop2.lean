import Derived.Test.Qxb6617666aJoin
namespace Go.Proofs.Qxb6617666a
open Go.RowKit
set_option linter.unusedVariables false
set_option linter.unusedSimpArgs false

theorem join_at (a1 a2 : Option Addr) (c1 c2 : Nat) (l1 l2 m : List ByteArray) (w : World) (hm : Hid (m = l1 ++ l2)) (hr1 : Rd w a1 l1) (hr2 : Rd w a2 l2) (h1 : l1.length ≤ 1048576) (h2 : l2.length ≤ 1048576) :
    Calls Try.prog 10 #[.slice a1 l1.length c1, .slice a2 l2.length c2] w fun e w' => ∃ a c, e = .returned (.slice a m.length c) ∧ Rd w' a m ∧ Below w.heap.size w w' := by
  rw [hm.out]
  exact join_any a1 a2 c1 c2 l1 l2 w hr1 hr2 h1 h2

theorem zzshared_at (s : ByteArray) (n1 n2 N : Int) (a1 a2 a3 : Option Addr) (c1 c2 c3 : Nat) (l1 l2 l3 m1 m2 J : List ByteArray) (w : World) (hm1 : Hid (m1 = l1 ++ l3)) (hm2 : Hid (m2 = l2 ++ l3)) (hr1 : Rd w a1 l1) (hr2 : Rd w a2 l2) (hr3 : Rd w a3 l3)
    (h1 : (m1.length : Int) ≤ n1) (h2 : (m2.length : Int) ≤ n2) (h3 : n1 ≤ 18446744073709551615) (h4 : n2 ≤ 18446744073709551615) (h5 : m1.length ≤ 1099511627776) (h6 : m2.length ≤ 1099511627776) (hJ : Ans n1 n2 m1 m2 N J) :
    Calls Try.prog 11 #[.string s, .int .u64 n1, .slice a1 l1.length c1, .int .u64 n2, .slice a2 l2.length c2, .slice a3 l3.length c3] w fun e w' => ∃ a c, e = .returned (.tuple #[.string s, .int .u64 N, .slice a J.length c]) ∧ Rd w' a J ∧ Below w.heap.size w w' := by
  rw [hm1.out, hm2.out] at hJ
  rw [hm1.out] at h1 h5
  rw [hm2.out] at h2 h6
  exact zzshared_any s n1 n2 N a1 a2 a3 c1 c2 c3 l1 l2 l3 J w hr1 hr2 hr3 h1 h2 h3 h4 h5 h6 hJ

set_option maxRecDepth 100000 in
set_option maxHeartbeats 1000000 in
theorem shared_any (s : ByteArray) (n1 n2 : Int) (a1 a2 a3 : Option Addr) (c1 c2 c3 : Nat) (l1 l2 l3 : List ByteArray) (w : World) (hs : s.size ≤ maxLen) (i1 : In w a1 c1 l1) (i2 : In w a2 c2 l2) (i3 : In w a3 c3 l3) (h0 : 0 ≤ n1) (h0' : 0 ≤ n2) (h3 : n1 ≤ 18446744073709551615) (h4 : n2 ≤ 18446744073709551615) :
    Calls Try.prog 4 #[.string s, .int .u64 n1, .slice a1 l1.length c1, .int .u64 n2, .slice a2 l2.length c2, .slice a3 l3.length c3] w fun e w' => e = .returned (.bool true) ∧ Below w.heap.size w w' := by
  have HB := hide (bytes9_any s n1 n2 a1 a2 a3 c1 c2 c3 l1 l2 l3 w hs i1.rd i2.rd i3.rd i1.fits i2.fits i3.fits i1.len i2.len i3.len)
  have HT := hide (big_any s a1 a2 a3 c1 c2 c3 l1 l2 l3 w hs i1.rd i2.rd i3.rd i1.fits i2.fits i3.fits i1.len i2.len i3.len)
  have q1 := i1.len
  have q2 := i2.len
  have q3 := i3.len
  unfold maxLen at q1 q2 q3
  go_enter Try.func4, Try.ntmps4
  go_wp2_with fail
  refine Calls.mono HB.out ?_
  rintro e w' ⟨c, rfl, hw, hP⟩
  subst w'
  cases c with
  | false =>
    clear hP HB HT
    go_wp2
    go_ret
    exact ⟨rfl, Below.refl _ _⟩
  | true =>
    obtain ⟨p1, p2, p3⟩ := hP rfl
    clear hP HB
    go_wp2_with fail
    refine Calls.mono HT.out ?_
    rintro e w' ⟨c, rfl, hw, hP⟩
    subst w'
    clear hP HT
    cases c with
    | true =>
      go_wp2
      go_ret
      exact ⟨rfl, Below.refl _ _⟩
    | false =>
      by_cases k1 : n1 < (l1.length : Int) + (l3.length : Int)
      · go_wp2
        go_ret
        exact ⟨rfl, Below.refl _ _⟩
      by_cases k2 : n2 < (l2.length : Int) + (l3.length : Int)
      · go_wp2
        go_ret
        exact ⟨rfl, Below.refl _ _⟩
      go_upto_if 55 with fail
      go_cut [2] from 21 (fun v wc => ∃ a c, v = .slice a l1.length c ∧ Rd wc a l1 ∧ Rd wc a2 l2 ∧ Rd wc a3 l3 ∧ Below w.heap.size w wc)
      case first =>
        have hrd := i1.rd
        have hrd2 := i2.rd
        have hrd3 := i3.rd
        cases a1 with
        | none =>
          go_wp2
          go_meet
          case rel => exact ⟨none, c1, rfl, hrd, hrd2, hrd3, Below.refl _ _⟩
        | some x =>
          have hmk := run_make_row' (P := Try.prog) 23 9 (.string ByteArray.empty) 16 Try.underlying23 info9 rfl .i64 .i64 l1.length (by omega) (by omega)
          have HG := hide (show (w.alloc (.cells (madeCells #[.string ByteArray.empty] l1.length) 9)).heap[w.heap.size]? = some (.cells (madeCells #[.string ByteArray.empty] l1.length).toList.toArray 9 (0, 0)) by simpa using heap_alloc_new w _)
          go_wp2_with (refine wpList_copy_splice rfl (.tmp 59) (.tmp 60) 23 23 rfl 9 Try.underlying23 (by kernel_rfl) _ _ _ _ _ _ rfl rfl w.heap.size 0 (madeCells #[.string ByteArray.empty] l1.length).toList 9 HG.out (strs l1) (by simp [strs_length]) (hrd.src _ _) (by simp [strs_length, size_madeCells]) (strs_one _) w.heap.size w ((Below.refl _ _).alloc (Nat.le_refl _) _) (Nat.le_refl _) ?_; intro W HG2 hbel)
          go_meet
          case rel => exact ⟨_, _, rfl, Rd.made HG2, hrd2.below hbel (Nat.le_refl _), hrd3.below hbel (Nat.le_refl _), hbel⟩
      case rest =>
        obtain ⟨b1, d1, rfl, r1, r2, r3, hbel⟩ := hcut
        rename World => V
        go_upto_if 64 with fail
        go_cut [4] from 21 (fun v wc => ∃ a c, v = .slice a l2.length c ∧ Rd wc a l2 ∧ Rd wc b1 l1 ∧ Rd wc a3 l3 ∧ Below w.heap.size w wc)
        case first =>
          cases a2 with
          | none =>
            go_wp2
            go_meet
            case rel => exact ⟨none, c2, rfl, r2, r1, r3, hbel⟩
          | some x =>
            have hmk := run_make_row' (P := Try.prog) 23 9 (.string ByteArray.empty) 16 Try.underlying23 info9 rfl .i64 .i64 l2.length (by omega) (by omega)
            have HG := hide (show (V.alloc (.cells (madeCells #[.string ByteArray.empty] l2.length) 9)).heap[V.heap.size]? = some (.cells (madeCells #[.string ByteArray.empty] l2.length).toList.toArray 9 (0, 0)) by simpa using heap_alloc_new V _)
            go_wp2_with (refine wpList_copy_splice rfl (.tmp 68) (.tmp 69) 23 23 rfl 9 Try.underlying23 (by kernel_rfl) _ _ _ _ _ _ rfl rfl V.heap.size 0 (madeCells #[.string ByteArray.empty] l2.length).toList 9 HG.out (strs l2) (by simp [strs_length]) (r2.src _ _) (by simp [strs_length, size_madeCells]) (strs_one _) V.heap.size V ((Below.refl _ _).alloc (Nat.le_refl _) _) (Nat.le_refl _) ?_; intro W HG2 hbel2)
            go_meet
            case rel => exact ⟨_, _, rfl, Rd.made HG2, r1.below hbel2 (Nat.le_refl _), r3.below hbel2 (Nat.le_refl _), hbel.trans (hbel2.mono hbel.size)⟩
        case rest =>
          clear r1 r2 r3 hbel
          obtain ⟨b2, d2, rfl, r2, r1, r3, hbel⟩ := hcut
          clear V
          rename World => V
          go_upto_if 73 with fail
          go_cut [5] from 21 (fun v wc => ∃ a c, v = .slice a l3.length c ∧ Rd wc a l3 ∧ Rd wc b1 l1 ∧ Rd wc b2 l2 ∧ Below w.heap.size w wc)
          case first =>
            cases a3 with
            | none =>
              go_wp2
              go_meet
              case rel => exact ⟨none, c3, rfl, r3, r1, r2, hbel⟩
            | some x =>
              have hmk := run_make_row' (P := Try.prog) 23 9 (.string ByteArray.empty) 16 Try.underlying23 info9 rfl .i64 .i64 l3.length (by omega) (by omega)
              have HG := hide (show (V.alloc (.cells (madeCells #[.string ByteArray.empty] l3.length) 9)).heap[V.heap.size]? = some (.cells (madeCells #[.string ByteArray.empty] l3.length).toList.toArray 9 (0, 0)) by simpa using heap_alloc_new V _)
              go_wp2_with (refine wpList_copy_splice rfl (.tmp 77) (.tmp 78) 23 23 rfl 9 Try.underlying23 (by kernel_rfl) _ _ _ _ _ _ rfl rfl V.heap.size 0 (madeCells #[.string ByteArray.empty] l3.length).toList 9 HG.out (strs l3) (by simp [strs_length]) (r3.src _ _) (by simp [strs_length, size_madeCells]) (strs_one _) V.heap.size V ((Below.refl _ _).alloc (Nat.le_refl _) _) (Nat.le_refl _) ?_; intro W HG2 hbel2)
              go_meet
              case rel => exact ⟨_, _, rfl, Rd.made HG2, r1.below hbel2 (Nat.le_refl _), r2.below hbel2 (Nat.le_refl _), hbel.trans (hbel2.mono hbel.size)⟩
          case rest =>
            clear r1 r2 r3 hbel
            obtain ⟨b3, d3, rfl, r3, r1, r2, hbel⟩ := hcut
            obtain ⟨m1, E1, L1, L3⟩ : ∃ m, Hid (m = l1 ++ l3) ∧ (m.length : Int) ≤ n1 ∧ m.length ≤ 1099511627776 := ⟨l1 ++ l3, rfl, by simp; omega, by simp; omega⟩
            obtain ⟨m2, E2, L2, L4⟩ : ∃ m, Hid (m = l2 ++ l3) ∧ (m.length : Int) ≤ n2 ∧ m.length ≤ 1099511627776 := ⟨l2 ++ l3, rfl, by simp; omega, by simp; omega⟩
            obtain ⟨N, J, hA⟩ : ∃ N J, Ans n1 n2 m1 m2 N J := by
              by_cases h : n1 < n2
              · exact ⟨_, _, .inl ⟨h, rfl, rfl⟩⟩
              · exact ⟨_, _, .inr ⟨h, rfl, rfl⟩⟩
            go_wp2_with fail
            refine (join_at b1 b3 d1 d3 l1 l3 m1 _ E1 r1 r3 p1 p3).mono ?_
            rintro e w5 ⟨a5, c5, rfl, r5, hb5⟩
            have r1' := r1.below hb5 (Nat.le_refl _)
            have r2' := r2.below hb5 (Nat.le_refl _)
            have r3' := r3.below hb5 (Nat.le_refl _)
            have hbw5 := hbel.trans (hb5.mono hbel.size)
            clear r1 r2 r3 hbel hb5
            go_wp2_with fail
            refine (join_at b2 b3 d2 d3 l2 l3 m2 _ E2 r2' r3' p2 p3).mono ?_
            rintro e w6 ⟨a6, c6, rfl, r6, hb6⟩
            have r1 := r1'.below hb6 (Nat.le_refl _)
            have r2 := r2'.below hb6 (Nat.le_refl _)
            have r3 := r3'.below hb6 (Nat.le_refl _)
            have r5' := r5.below hb6 (Nat.le_refl _)
            have hbw6 := hbw5.trans (hb6.mono hbw5.size)
            clear r1' r2' r3' r5 hbw5 hb6
            go_wp2_with fail
            refine (zzshared_at s n1 n2 N b1 b2 b3 d1 d2 d3 l1 l2 l3 m1 m2 J _ E1 E2 r1 r2 r3 L1 L2 h3 h4 L3 L4 hA).mono ?_
            rintro e w7 ⟨a7, c7, rfl, r7, hb7⟩
            have r5 := r5'.below hb7 (Nat.le_refl _)
            have r6' := r6.below hb7 (Nat.le_refl _)
            have hbw := hbw6.trans (hb7.mono hbw6.size)
            clear r1 r2 r3 r5' r6 hbw6 hb7
            go_wp2_with fail
            refine (match_any s n1 n2 N a5 a6 a7 c5 c6 c7 m1 m2 J _ r5 r6' r7 L1 L2 h3 h4 L3 L4 hA).mono ?_
            rintro e w' ⟨rfl, hw⟩
            subst w'
            go_wp2
            go_ret
            exact ⟨rfl, hbw⟩
end Go.Proofs.Qxb6617666a
