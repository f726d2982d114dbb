import Derived.Test.Qxb6617666aBytes
import Derived.Test.Qxb6617666aMatch
import Derived.Laws.CopyOwn
namespace Go.Proofs.Qxb6617666a
open Go.RowKit
set_option linter.unusedVariables false
set_option linter.unusedSimpArgs false

theorem Rd.src {w : World} {a : Option Addr} {l : List ByteArray} (h : Rd w a l) (ob : Obj) (X : Addr) :
    0 < (strs l).length → some X = some X ∧ ∃ ad, a = some ad ∧ ∀ j v, (strs l)[j]? = some v → (w.alloc ob).cell? (ad.add j) = some v := by
  intro hl
  rw [strs_length] at hl
  obtain ⟨b, o, rfl, hcell⟩ := h.one hl
  refine ⟨rfl, _, rfl, fun j v hv => ?_⟩
  have hj : j < l.length := by have := (List.getElem?_eq_some_iff.1 hv).1; rwa [strs_length] at this
  have hx := strs_get (List.getElem?_eq_getElem hj)
  rw [hx] at hv
  have h := hcell j _ (List.getElem?_eq_getElem hj)
  rw [Addr.add_lit, World.cell?_alloc_lt _ _ _ (World.block_lt_of_cell? w _ h), h, hv]
theorem Rd.made {W : World} {l : List ByteArray} {g : Nat} (h : Hid (W.heap[g]? = some (.cells (splice (madeCells #[.string ByteArray.empty] l.length).toList 0 (strs l)).toArray 9 (0, 0)))) : Rd W (some ⟨g, 0, none⟩) l := by
  intro i x hi
  refine ⟨g, 0, rfl, ?_⟩
  have h1 : splice (madeCells #[.string ByteArray.empty] l.length).toList 0 (strs l) = strs l := by
    unfold splice
    rw [List.take_zero, List.nil_append, List.drop_eq_nil_of_le (by simp [strs_length, size_madeCells]), List.append_nil]
  have h2 := h.out
  rw [h1] at h2
  have h3 : Blk W g (strs l) 9 := h2
  have := h3.cell i _ (strs_get hi)
  rwa [Nat.zero_add]

/-- A slice of strings that came in. -/
structure In (w : World) (a : Option Addr) (cap : Nat) (l : List ByteArray) : Prop where
  rd : Rd w a l
  fits : Fits l
  len : l.length ≤ maxLen
  nil : a = none → l = [] ∧ cap = 0

set_option maxRecDepth 100000 in
set_option maxHeartbeats 1000000 in
theorem dot_any (s : ByteArray) (n1 n2 : Int) (a1 a2 : Option Addr) (c1 c2 : Nat) (l1 l2 : List ByteArray) (w : World) (hs : s.size ≤ maxLen) (i1 : In w a1 c1 l1) (i2 : In w a2 c2 l2) (h0 : 0 ≤ n1) (h0' : 0 ≤ n2) (h3 : n1 ≤ 18446744073709551615) (h4 : n2 ≤ 18446744073709551615) :
    Calls Try.prog 3 #[.string s, .int .u64 n1, .slice a1 l1.length c1, .int .u64 n2, .slice a2 l2.length c2] w fun e w' => e = .returned (.bool true) ∧ Below w.heap.size w w' := by
  have HB := hide (bytes5_any s n1 n2 a1 a2 c1 c2 l1 l2 w hs i1.rd i2.rd i1.fits i2.fits i1.len i2.len)
  have HT := hide (big_any s a1 a2 none c1 c2 0 l1 l2 [] w hs i1.rd i2.rd (Rd.nil _ _) i1.fits i2.fits (fun i => by simp [List.getD]) i1.len i2.len (by simp))
  have q1 := i1.len
  have q2 := i2.len
  unfold maxLen at q1 q2
  go_enter Try.func3, Try.ntmps3
  go_wp2_with fail
  refine Calls.mono HB.out ?_
  rintro e w' ⟨c, rfl, hw, hP⟩
  subst w'
  cases c with
  | false =>
    clear hP HB HT
    go_wp2
    go_ret
    exact ⟨rfl, Below.refl _ _⟩
  | true =>
    obtain ⟨p1, p2⟩ := hP rfl
    clear hP HB
    go_wp2_with fail
    refine Calls.mono HT.out ?_
    rintro e w' ⟨c, rfl, hw, hP⟩
    subst w'
    clear hP HT
    cases c with
    | true =>
      go_wp2
      go_ret
      exact ⟨rfl, Below.refl _ _⟩
    | false =>
      by_cases k1 : n1 < (l1.length : Int)
      · go_wp2
        go_ret
        exact ⟨rfl, Below.refl _ _⟩
      by_cases k2 : n2 < (l2.length : Int)
      · go_wp2
        go_ret
        exact ⟨rfl, Below.refl _ _⟩
      go_upto_if 40 with fail
      go_cut [2] from 16 (fun v wc => ∃ a c, v = .slice a l1.length c ∧ Rd wc a l1 ∧ Rd wc a2 l2 ∧ Below w.heap.size w wc)
      case first =>
        have hrd := i1.rd
        have hrd2 := i2.rd
        cases a1 with
        | none =>
          go_wp2
          go_meet
          case rel => exact ⟨none, c1, rfl, hrd, hrd2, Below.refl _ _⟩
        | some x =>
          have hmk := run_make_row' (P := Try.prog) 23 9 (.string ByteArray.empty) 16 Try.underlying23 info9 rfl .i64 .i64 l1.length (by omega) (by omega)
          have HG := hide (show (w.alloc (.cells (madeCells #[.string ByteArray.empty] l1.length) 9)).heap[w.heap.size]? = some (.cells (madeCells #[.string ByteArray.empty] l1.length).toList.toArray 9 (0, 0)) by simpa using heap_alloc_new w _)
          go_wp2_with (refine wpList_copy_splice rfl (.tmp 44) (.tmp 45) 23 23 rfl 9 Try.underlying23 (by kernel_rfl) _ _ _ _ _ _ rfl rfl w.heap.size 0 (madeCells #[.string ByteArray.empty] l1.length).toList 9 HG.out (strs l1) (by simp [strs_length]) (hrd.src _ _) (by simp [strs_length, size_madeCells]) (strs_one _) w.heap.size w ((Below.refl _ _).alloc (Nat.le_refl _) _) (Nat.le_refl _) ?_; intro W HG2 hbel)
          go_meet
          case rel => exact ⟨_, _, rfl, Rd.made HG2, hrd2.below hbel (Nat.le_refl _), hbel⟩
      case rest =>
        obtain ⟨b1, d1, rfl, r1, r2, hbel⟩ := hcut
        rename World => V
        go_upto_if 49 with fail
        go_cut [4] from 16 (fun v wc => ∃ a c, v = .slice a l2.length c ∧ Rd wc a l2 ∧ Rd wc b1 l1 ∧ Below w.heap.size w wc)
        case first =>
          cases a2 with
          | none =>
            go_wp2
            go_meet
            case rel => exact ⟨none, c2, rfl, r2, r1, hbel⟩
          | some x =>
            have hmk := run_make_row' (P := Try.prog) 23 9 (.string ByteArray.empty) 16 Try.underlying23 info9 rfl .i64 .i64 l2.length (by omega) (by omega)
            have HG := hide (show (V.alloc (.cells (madeCells #[.string ByteArray.empty] l2.length) 9)).heap[V.heap.size]? = some (.cells (madeCells #[.string ByteArray.empty] l2.length).toList.toArray 9 (0, 0)) by simpa using heap_alloc_new V _)
            go_wp2_with (refine wpList_copy_splice rfl (.tmp 53) (.tmp 54) 23 23 rfl 9 Try.underlying23 (by kernel_rfl) _ _ _ _ _ _ rfl rfl V.heap.size 0 (madeCells #[.string ByteArray.empty] l2.length).toList 9 HG.out (strs l2) (by simp [strs_length]) (r2.src _ _) (by simp [strs_length, size_madeCells]) (strs_one _) V.heap.size V ((Below.refl _ _).alloc (Nat.le_refl _) _) (Nat.le_refl _) ?_; intro W HG2 hbel2)
            go_meet
            case rel => exact ⟨_, _, rfl, Rd.made HG2, r1.below hbel2 (Nat.le_refl _), hbel.trans (hbel2.mono hbel.size)⟩
        case rest =>
          clear r1 r2 hbel
          obtain ⟨b2, d2, rfl, r2, r1, hbel⟩ := hcut
          obtain ⟨N, J, hA⟩ : ∃ N J, Ans n1 n2 l1 l2 N J := by
            by_cases h : n1 < n2
            · exact ⟨_, _, .inl ⟨h, rfl, rfl⟩⟩
            · exact ⟨_, _, .inr ⟨h, rfl, rfl⟩⟩
          go_wp2_with fail
          refine (zzsurv_any s n1 n2 N b1 b2 d1 d2 l1 l2 J _ r1 r2 (by omega) (by omega) h3 h4 (by omega) (by omega) hA).mono ?_
          rintro e w5 ⟨a5, c5, rfl, r5, hb5⟩
          have r1' := r1.below hb5 (Nat.le_refl _)
          have r2' := r2.below hb5 (Nat.le_refl _)
          have hbw := hbel.trans (hb5.mono hbel.size)
          clear r1 r2 hbel hb5
          go_wp2_with fail
          refine (match_any s n1 n2 N b1 b2 a5 d1 d2 c5 l1 l2 J _ r1' r2' r5 (by omega) (by omega) h3 h4 (by omega) (by omega) hA).mono ?_
          rintro e w' ⟨rfl, hw⟩
          subst w'
          go_wp2
          go_ret
          exact ⟨rfl, hbw⟩
end Go.Proofs.Qxb6617666a
