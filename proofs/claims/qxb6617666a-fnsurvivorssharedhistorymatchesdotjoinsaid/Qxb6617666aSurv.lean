import Derived.Test.Qxb6617666aJoined
import Derived.Deep.Cut
namespace Go.Proofs.Qxb6617666a
open Go.RowKit
set_option linter.unusedVariables false
set_option linter.unusedSimpArgs false

/-- Where the two entries stand, the greater counter's first. -/
def Ent (w wc : World) (N : Int) (J : List ByteArray) (s : ByteArray) : Prop :=
  ∃ (uM uT : Option Addr) (sM sT : ByteArray) (nT : Int) (lM lT : List ByteArray) (c2 : List Value),
    Blk wc w.heap.size [.pointer uM, .string sM, .int .u64 N] 37 ∧ Blk wc (w.heap.size + 1) [.pointer uT, .string sT, .int .u64 nT] 37 ∧ Blk wc (w.heap.size + 1 + 1) c2 37 ∧ c2.length = 3 ∧ Below w.heap.size w wc ∧
    Lst w uM lM ∧ Lst w uT lT ∧ nT ≤ N ∧ (lM.length : Int) ≤ N ∧ (lT.length : Int) ≤ nT ∧ N ≤ 18446744073709551615 ∧ lM.length ≤ 1099511627776 ∧ lT.length ≤ 1099511627776 ∧ J = join lM lT (N - nT).toNat

theorem swap_ent {w W : World} {p0 p1 p2 q0 q1 q2 : Value} {c2 : List Value} (b0 : Blk W w.heap.size [p0, p1, p2] 37) (b1 : Blk W (w.heap.size + 1) [q0, q1, q2] 37) (b2 : Blk W (w.heap.size + 1 + 1) c2 37) (bw : Below w.heap.size w W) :
    Blk ((((((W.setCell ⟨w.heap.size, 0, none⟩ q0).setCell ⟨w.heap.size, 1, none⟩ q1).setCell ⟨w.heap.size, 2, none⟩ q2).setCell ⟨w.heap.size + 1, 0, none⟩ p0).setCell ⟨w.heap.size + 1, 1, none⟩ p1).setCell ⟨w.heap.size + 1, 2, none⟩ p2) w.heap.size [q0, q1, q2] 37 ∧
    Blk ((((((W.setCell ⟨w.heap.size, 0, none⟩ q0).setCell ⟨w.heap.size, 1, none⟩ q1).setCell ⟨w.heap.size, 2, none⟩ q2).setCell ⟨w.heap.size + 1, 0, none⟩ p0).setCell ⟨w.heap.size + 1, 1, none⟩ p1).setCell ⟨w.heap.size + 1, 2, none⟩ p2) (w.heap.size + 1) [p0, p1, p2] 37 ∧
    Blk ((((((W.setCell ⟨w.heap.size, 0, none⟩ q0).setCell ⟨w.heap.size, 1, none⟩ q1).setCell ⟨w.heap.size, 2, none⟩ q2).setCell ⟨w.heap.size + 1, 0, none⟩ p0).setCell ⟨w.heap.size + 1, 1, none⟩ p1).setCell ⟨w.heap.size + 1, 2, none⟩ p2) (w.heap.size + 1 + 1) c2 37 ∧
    Below w.heap.size w ((((((W.setCell ⟨w.heap.size, 0, none⟩ q0).setCell ⟨w.heap.size, 1, none⟩ q1).setCell ⟨w.heap.size, 2, none⟩ q2).setCell ⟨w.heap.size + 1, 0, none⟩ p0).setCell ⟨w.heap.size + 1, 1, none⟩ p1).setCell ⟨w.heap.size + 1, 2, none⟩ p2) := by
  refine ⟨?_, ?_, ?_, ?_⟩
  · exact (((((b0.set 0 q0).set 1 q1).set 2 q2).other _ _ (by simp)).other _ _ (by simp)).other _ _ (by simp)
  · exact (((((b1.other _ _ (by simp)).other _ _ (by simp)).other _ _ (by simp)).set 0 p0).set 1 p1).set 2 p2
  · exact (((((b2.other _ _ (by simp; omega)).other _ _ (by simp; omega)).other _ _ (by simp; omega)).other _ _ (by simp)).other _ _ (by simp)).other _ _ (by simp)
  · exact (((((bw.setCell (Nat.le_refl _) _).setCell (Nat.le_refl _) _).setCell (Nat.le_refl _) _).setCell (by simp) _).setCell (by simp) _).setCell (by simp) _

theorem far3 {w : World} {B o : Nat} {x : Value} (h : w.cell? ⟨B, o, none⟩ = some x) (p0 p1 p2 : Value) :
    (((w.setCell ⟨B + 1 + 1, 0, none⟩ p0).setCell ⟨B + 1 + 1, 1, none⟩ p1).setCell ⟨B + 1 + 1, 2, none⟩ p2).cell? ⟨B, o, none⟩ = some x := by
  rw [World.cell?_setCell_far _ _ _ _ (by simp; omega), World.cell?_setCell_far _ _ _ _ (by simp; omega), World.cell?_setCell_far _ _ _ _ (by simp; omega)]
  exact h

theorem put_res {w w3 : World} {B : Nat} {d0 d1 d2 : Value} {u' : Option Addr} {l : List ByteArray} (kb : Blk w3 (B + 1 + 1) [d0, d1, d2] 37) (hl : Lst w3 u' l) (hb : Below B w w3) (p0 p1 p2 : Value) :
    Lst (((w3.setCell ⟨B + 1 + 1, 0, none⟩ p0).setCell ⟨B + 1 + 1, 1, none⟩ p1).setCell ⟨B + 1 + 1, 2, none⟩ p2) u' l ∧ Below B w (((w3.setCell ⟨B + 1 + 1, 0, none⟩ p0).setCell ⟨B + 1 + 1, 1, none⟩ p1).setCell ⟨B + 1 + 1, 2, none⟩ p2) ∧
    (((w3.setCell ⟨B + 1 + 1, 0, none⟩ p0).setCell ⟨B + 1 + 1, 1, none⟩ p1).setCell ⟨B + 1 + 1, 2, none⟩ p2).cell? ⟨B + 1 + 1, 0, none⟩ = some p0 ∧
    (((w3.setCell ⟨B + 1 + 1, 0, none⟩ p0).setCell ⟨B + 1 + 1, 1, none⟩ p1).setCell ⟨B + 1 + 1, 2, none⟩ p2).cell? ⟨B + 1 + 1, 1, none⟩ = some p1 ∧
    (((w3.setCell ⟨B + 1 + 1, 0, none⟩ p0).setCell ⟨B + 1 + 1, 1, none⟩ p1).setCell ⟨B + 1 + 1, 2, none⟩ p2).cell? ⟨B + 1 + 1, 2, none⟩ = some p2 := by
  have k1 := kb.set 0 p0
  have k2 := k1.set 1 p1
  have k3 := k2.set 2 p2
  exact ⟨Lst.setOther k2 (by decide) _ _ _ _ (Lst.setOther k1 (by decide) _ _ _ _ (Lst.setOther kb (by decide) _ _ _ _ hl)), ((hb.setCell (by simp; omega) _).setCell (by simp; omega) _).setCell (by simp; omega) _, k3.cell 0 _ rfl, k3.cell 1 _ rfl, k3.cell 2 _ rfl⟩

theorem info_size : ∃ j : TypeInfo, Try.prog.info? 43 = some j ∧ j.size ≠ 0 := by
  obtain ⟨i, hi, _, hs, _⟩ := info_parts info43
  exact ⟨i, hi, by rw [hs]; decide⟩

theorem hs_step {lM lT : List ByteArray} {sk k : Nat} {x y : ByteArray} (HS : Hid (∀ i, i < k → smax (lM.getD (sk + i) ByteArray.empty) (lT.getD i ByteArray.empty) = lM.getD (sk + i) ByteArray.empty)) (HX : Hid (lM.getD (sk + k) ByteArray.empty = x)) (HY : Hid (lT.getD k ByteArray.empty = y)) (HXY : Hid (smax x y = x)) :
    Hid (∀ i, i < k + 1 → smax (lM.getD (sk + i) ByteArray.empty) (lT.getD i ByteArray.empty) = lM.getD (sk + i) ByteArray.empty) := by
  intro i hi
  by_cases h : i < k
  · exact HS.out i h
  · obtain rfl : i = k := by omega
    rw [HX.out, HY.out]
    exact HXY.out

set_option maxRecDepth 100000 in
set_option maxHeartbeats 1000000 in
theorem survivors_any (s s1 s2 : ByteArray) (u1 u2 : Option Addr) (n1 n2 N : Int) (l1 l2 J : List ByteArray) (w : World) (hl1 : Lst w u1 l1) (hl2 : Lst w u2 l2)
    (h1 : (l1.length : Int) ≤ n1) (h2 : (l2.length : Int) ≤ n2) (h3 : n1 ≤ 18446744073709551615) (h4 : n2 ≤ 18446744073709551615) (h5 : l1.length ≤ 1099511627776) (h6 : l2.length ≤ 1099511627776)
    (hJ : (n1 < n2 ∧ N = n2 ∧ J = join l2 l1 (n2 - n1).toNat) ∨ (¬ n1 < n2 ∧ N = n1 ∧ J = join l1 l2 (n1 - n2).toNat)) :
    Calls Try.prog 13 #[.string s, .agg #[.pointer u1, .string s1, .int .u64 n1], .agg #[.pointer u2, .string s2, .int .u64 n2]] w fun e w' => ∃ u', e = .returned (.agg #[.pointer u', .string s, .int .u64 N]) ∧ Lst w' u' J ∧ Below w.heap.size w w' := by
  go_enter Try.func13, Try.ntmps13
  go_upto_if 18 with fail
  go_cut [] from 12 (fun wc => Ent w wc N J s)
  case first =>
    have b0 : Blk (((w.alloc (.cells #[.pointer u1, .string s1, .int .u64 n1] 37)).alloc (.cells #[.pointer u2, .string s2, .int .u64 n2] 37)).alloc (.cells #[.pointer none, .string { data := #[] }, .int .u64 0] 37)) w.heap.size [.pointer u1, .string s1, .int .u64 n1] 37 := ((Blk.new w [.pointer u1, .string s1, .int .u64 n1] 37).alloc _).alloc _
    have b1 : Blk (((w.alloc (.cells #[.pointer u1, .string s1, .int .u64 n1] 37)).alloc (.cells #[.pointer u2, .string s2, .int .u64 n2] 37)).alloc (.cells #[.pointer none, .string { data := #[] }, .int .u64 0] 37)) (w.heap.size + 1) [.pointer u2, .string s2, .int .u64 n2] 37 := by
      have := (Blk.new (w.alloc (.cells #[.pointer u1, .string s1, .int .u64 n1] 37)) [.pointer u2, .string s2, .int .u64 n2] 37).alloc (.cells #[.pointer none, .string { data := #[] }, .int .u64 0] 37)
      simpa using this
    have b2 : Blk (((w.alloc (.cells #[.pointer u1, .string s1, .int .u64 n1] 37)).alloc (.cells #[.pointer u2, .string s2, .int .u64 n2] 37)).alloc (.cells #[.pointer none, .string { data := #[] }, .int .u64 0] 37)) (w.heap.size + 1 + 1) [.pointer none, .string { data := #[] }, .int .u64 0] 37 := by
      have := Blk.new ((w.alloc (.cells #[.pointer u1, .string s1, .int .u64 n1] 37)).alloc (.cells #[.pointer u2, .string s2, .int .u64 n2] 37)) [.pointer none, .string { data := #[] }, .int .u64 0] 37
      simpa using this
    have bw : Below w.heap.size w (((w.alloc (.cells #[.pointer u1, .string s1, .int .u64 n1] 37)).alloc (.cells #[.pointer u2, .string s2, .int .u64 n2] 37)).alloc (.cells #[.pointer none, .string { data := #[] }, .int .u64 0] 37)) :=
      (((Below.refl w.heap.size w).alloc (Nat.le_refl _) _).alloc (by simp) _).alloc (by simp; omega) _
    obtain ⟨W, hW⟩ : ∃ W, W = (((w.alloc (.cells #[.pointer u1, .string s1, .int .u64 n1] 37)).alloc (.cells #[.pointer u2, .string s2, .int .u64 n2] 37)).alloc (.cells #[.pointer none, .string { data := #[] }, .int .u64 0] 37)) := ⟨_, rfl⟩
    rw [← hW] at b0 b1 b2 bw ⊢
    clear hW
    rcases hJ with ⟨hlt, hN, hJ⟩ | ⟨hlt, hN, hJ⟩
    · have a0 := b0.cell 0 _ rfl
      have a1 := b0.cell 1 _ rfl
      have a2 := b0.cell 2 _ rfl
      have c0 := b1.cell 0 _ rfl
      have c1 := b1.cell 1 _ rfl
      have c2 := b1.cell 2 _ rfl
      have f0 := b0.frozen
      have f1 := b1.frozen
      have HJ := hide hJ
      have HN := hide hN
      clear hJ hN
      go_wp2
      go_meet
      case rel => exact ⟨u2, u1, s2, s1, n1, l2, l1, _, by rw [HN.out]; exact (swap_ent b0 b1 b2 bw).1, (swap_ent b0 b1 b2 bw).2.1, (swap_ent b0 b1 b2 bw).2.2.1, rfl, (swap_ent b0 b1 b2 bw).2.2.2, hl2, hl1, by have := HN.out; omega, by have := HN.out; omega, h1, by have := HN.out; omega, h6, h5, by rw [HJ.out, HN.out]⟩
    · have HJ := hide hJ
      have HN := hide hN
      clear hJ hN
      go_wp2
      go_meet
      case rel => exact ⟨u1, u2, s1, s2, n2, l1, l2, _, by rw [HN.out]; exact b0, b1, b2, rfl, bw, hl1, hl2, by have := HN.out; omega, by have := HN.out; omega, h2, by have := HN.out; omega, h5, h6, by rw [HJ.out, HN.out]⟩
  case rest =>
    clear hl1 hl2 h1 h2 h3 h4 h5 h6 hJ
    rename World => V
    obtain ⟨uM, uT, sM, sT, nT, lM, lT, c2, b0, b1, b2, hc2, bw, hlM, hlT, g1, g2, g3, g4, g5, g6, hJ⟩ := hcut
    obtain ⟨sk, hsk⟩ : ∃ sk : Nat, N - nT = (sk : Int) := ⟨(N - nT).toNat, by omega⟩
    have esk : (N - nT).toNat = sk := by omega
    rw [esk] at hJ
    obtain ⟨m, hm⟩ : ∃ m, m = kept lM lT sk := ⟨_, rfl⟩
    have hm' : m = min (N - (nT - lT.length)).toNat lM.length := by rw [hm]; unfold kept; omega
    have hm1 : m ≤ lM.length := by rw [hm]; unfold kept; omega
    have hm2 : m ≤ sk + lT.length := by rw [hm]; unfold kept; omega
    have HL := hide (fun q => len_any uT lT (V.drewN q) ((Lst.below bw (Nat.le_refl _) _ _ hlT).drewN q))
    have HCt := hide (fun q => count_any uM lM N (nT - lT.length) m (V.drewN q) ((Lst.below bw (Nat.le_refl _) _ _ hlM).drewN q) (by omega) (by omega) g4 g5 hm')
    have hwr : IntKind.u64.wrap (nT - (lT.length : Int)) = nT - lT.length := by rw [IntKind.wrap_u64]; omega
    have a0 := b0.cell 0 _ rfl
    have a2 := b0.cell 2 _ rfl
    have c0 := b1.cell 0 _ rfl
    have c2' := b1.cell 2 _ rfl
    have HJ := hide hJ
    have HM := hide hm
    have HM' := hide hm'
    clear hJ hm hm' esk
    go_wp2_with fail
    go_quiet (first
      | (go_at_call 16; exact Calls.quiet_of_same (Hid.out HL _))
      | (go_at_call 17; exact Calls.quiet_of_same (Hid.out HCt _)))
    go_upto_if 45 with fail
    go_cut [] from 12 (fun w2 => ∃ q, w2 = V.drewN q ∧ Hid (J = lM.take m))
    case rest =>
      clear HL HCt hwr
      obtain ⟨q, rfl, HT⟩ := hcut
      have hlw := (Lst.below bw (Nat.le_refl _) _ _ hlM).drewN q
      obtain ⟨Z, hZ⟩ : ∃ Z, Z = V.drewN q := ⟨_, rfl⟩
      have b0' : Blk Z w.heap.size [.pointer uM, .string sM, .int .u64 N] 37 := by rw [hZ]; exact b0
      have b2' : Blk Z (w.heap.size + 1 + 1) c2 37 := by rw [hZ]; exact b2
      have bw' : Below w.heap.size w Z := by rw [hZ]; exact below_drewN bw q
      have a0' := b0'.cell 0 _ rfl
      have a2' := b0'.cell 2 _ rfl
      rw [← hZ] at hlw ⊢
      have HF := hide (first_any uM m lM Z.drew hlw.drew g5 (by omega))
      have key : ∀ w3, Below Z.heap.size Z w3 → w3.cell? ⟨w.heap.size, 0, none⟩ = some (.pointer uM) ∧ w3.cell? ⟨w.heap.size, 2, none⟩ = some (.int .u64 N) ∧ ∃ d0 d1 d2, Blk w3 (w.heap.size + 1 + 1) [d0, d1, d2] 37 := by
        intro w3 h3
        have k0 := b0'.below h3 b0'.lt
        have k2 := b2'.below h3 b2'.lt
        match c2, hc2, k2 with
        | [d0, d1, d2], _, k2 => exact ⟨k0.cell 0 _ rfl, k0.cell 2 _ rfl, d0, d1, d2, k2⟩
      have KEY := hide key
      clear key b0 b1 b2 b0' b2' bw hlM hlT hZ hlw a0 a2 c0 c2'
      go_wp2_with fail
      go_region_held (fun w' => w'.cell? ⟨w.heap.size, 0, none⟩ = some (.pointer uM) ∧ w'.cell? ⟨w.heap.size, 2, none⟩ = some (.int .u64 N)) (first | exact ⟨a0', a2'⟩ | exact ⟨k0, k2⟩ | exact ⟨far3 k0 _ _ _, far3 k2 _ _ _⟩)
        (first | (go_at_call 20; refine Calls.mono (Hid.out HF) ?_; rintro e w3 ⟨u', rfl, hl3, hb3'⟩; have hb3 : Below Z.heap.size Z w3 := ⟨hb3'.os, hb3'.tape, hb3'.output, hb3'.size, hb3'.block⟩; clear hb3'; obtain ⟨k0, k2, d0, d1, d2, kb⟩ := Hid.out KEY w3 hb3; have e0 := kb.cell 0 _ rfl; have e1 := kb.cell 1 _ rfl; have e2 := kb.cell 2 _ rfl; have ff := kb.frozen))
      obtain ⟨r1, r2, r3, r4, r5⟩ := put_res kb hl3 (bw'.trans (hb3.mono bw'.size)) (.pointer u') (.string s) (.int .u64 N)
      clear KEY HF kb ff e0 e1 e2 hb3 hl3 k0 k2
      go_wp2
      exact bodyPost_ret (v := .agg #[.pointer u', .string s, .int .u64 N]) (by simp [results, Try.results13, go_sem, r3, r4, r5]) rfl ⟨u', rfl, by rw [HT.out]; exact r1, r2⟩
    case first =>
      by_cases hsm : sk < m
      case' neg =>
        go_wp2
        go_meet
        case rel => exact ⟨nq, rfl, by rw [HJ.out]; have := join_take (l1 := lM) (l2 := lT) (skip := sk) (fun i h1 h2 => absurd h2 (by rw [← HM.out]; omega)); rw [← HM.out] at this; exact this⟩
      case pos =>
      clear HL HCt hwr
      have eM := Lst.below bw (Nat.le_refl _) _ _ hlM
      have eT := Lst.below bw (Nat.le_refl _) _ _ hlT
      go_wp2
      go_quiet (fail)
      go_wp2
      go_loopw [9, 51] (fun p i wr => ∃ (k q : Nat) (u' : Option Addr), k ≤ sk ∧ p = .pointer u' ∧ i = .int .u64 k ∧ Lst V u' (lM.drop k) ∧ wr = V.drewN q) (fun _ i _ => sk - (intOf i).toNat)
      case atStart => exact ⟨0, _, uM, Nat.zero_le _, rfl, rfl, eM, by rw [World.drewN_drewN]⟩
      case round =>
        obtain ⟨k, q, u', hk, rfl, rfl, hlst, rfl⟩ := hrel
        by_cases hks : k < sk
        · obtain ⟨b, o, v', rfl, hc0, hc1, _, hlst', _⟩ := hlst.head (by simp; omega)
          have hd : (lM.drop k).drop 1 = lM.drop (k + 1) := by simp
          rw [hd] at hlst'
          clear hlst hd
          go_wp2
          go_roundw
          case rel => exact ⟨k + 1, q, v', by omega, rfl, by go_num, hlst', rfl⟩
          case measure => simp [intOf]; omega
        · obtain rfl : sk = k := by omega
          obtain ⟨jt, hjt⟩ := info_size
          have hsub : (m : Int) - (sk : Int) = ((m - sk : Nat) : Int) := by omega
          go_wp2
          go_loopw [9, 10, 62] (fun p p2 i wr => ∃ (k q : Nat) (ua ub : Option Addr), k ≤ m - sk ∧ p = .pointer ua ∧ p2 = .pointer ub ∧ i = .int .u64 k ∧ Lst V ua (lM.drop (sk + k)) ∧ Lst V ub (lT.drop k) ∧ Hid (∀ i, i < k → smax (lM.getD (sk + i) ByteArray.empty) (lT.getD i ByteArray.empty) = lM.getD (sk + i) ByteArray.empty) ∧ wr = V.drewN q) (fun _ _ i _ => m - sk - (intOf i).toNat)
          case atStart => exact ⟨0, q, u', uT, Nat.zero_le _, rfl, rfl, rfl, hlst, eT, fun i hi => absurd hi (Nat.not_lt_zero _), rfl⟩
          case round =>
            obtain ⟨k, q, ua, ub, hk, rfl, rfl, rfl, hla, hlb, HS, rfl⟩ := hrel
            by_cases hkm : k < m - sk
            · obtain ⟨b, o, v', rfl, hc0, hc1, _, hla', cs1, t1, hh1⟩ := hla.head (by simp; omega)
              obtain ⟨bb, o2, v2, rfl, hd0, hd1, _, hlb', cs2, t2, hh2⟩ := hlb.head (by simp; omega)
              by_cases hab : (⟨b, o, none⟩ : Addr) = ⟨bb, o2, none⟩
              · have heq := run_eql_ptr_same (P := Try.prog) (V.drewN q) ⟨bb, o2, none⟩ Try.underlying32 hjt.1
                simp only [Addr.mk.injEq] at hab
                obtain ⟨rfl, rfl, _⟩ := hab
                have hdet := Lst.det _ _ _ hla hlb
                clear hla hlb hc0 hc1 hd0 hd1 hla' hlb'
                have HD := hide hdet
                clear hdet
                go_wp2
                go_meet
                case rel => exact ⟨q, rfl, by rw [HJ.out]; exact join_done HM.out HS.out (.inr HD.out)⟩
              · have heq := run_eql_ptr_other (P := Try.prog) (V.drewN q) Try.underlying32 hjt.1 hjt.2 hab hh1 hh2
                have hx : (lM.drop (sk + k)).getD 0 ByteArray.empty = lM.getD (sk + k) ByteArray.empty := by simp [List.getD]
                have hy : (lT.drop k).getD 0 ByteArray.empty = lT.getD k ByteArray.empty := by simp [List.getD]
                have hdx : (lM.drop (sk + k)).drop 1 = lM.drop (sk + (k + 1)) := by simp [Nat.add_assoc]
                have hdy : (lT.drop k).drop 1 = lT.drop (k + 1) := by simp
                rw [hdx] at hla'
                rw [hdy] at hlb'
                rw [hx] at hc0
                rw [hy] at hd0
                obtain ⟨x, hxx⟩ : ∃ x, lM.getD (sk + k) ByteArray.empty = x := ⟨_, rfl⟩
                obtain ⟨y, hyy⟩ : ∃ y, lT.getD k ByteArray.empty = y := ⟨_, rfl⟩
                rw [hxx] at hc0
                rw [hyy] at hd0
                have HX := hide hxx
                have HY := hide hyy
                clear hx hy hdx hdy hxx hyy hla hlb hab hh1 hh2
                by_cases hxy : smax x y = x
                · have HXY := hide hxy
                  have hbq : ((smax x y).toList == x.toList) = true := by rw [hxy]; simp
                  clear hxy
                  go_wp2
                  go_quiet ((go_at_call 18; exact Calls.mono (surv_any x y _) (fun e w'' h => ⟨h.1, _, h.2⟩)))
                  go_wp2
                  go_quiet (fail)
                  go_wp2
                  go_roundw
                  case rel => exact ⟨k + 1, _, v', v2, by omega, rfl, rfl, by go_num, hla', hlb', hs_step HS HX HY HXY, rfl⟩
                  case measure => simp [intOf]; omega
                · have hbq : ((smax x y).toList == x.toList) = false := by
                    have : (smax x y).toList ≠ x.toList := fun e => hxy (toList_inj e)
                    simpa using this
                  clear hxy
                  go_wp2
                  go_quiet ((go_at_call 18; exact Calls.mono (surv_any x y _) (fun e w'' h => ⟨h.1, _, h.2⟩)))
                  go_wp2_with fail
                  refine (joined_any uM uT lM lT sk m _ (eM.drewN _) (eT.drewN _) HM.out hsm g5).mono ?_
                  rintro e w3 ⟨u3, rfl, hl3, hb3'⟩
                  have hb3 : Below V.heap.size V w3 := ⟨hb3'.os, hb3'.tape, hb3'.output, hb3'.size, hb3'.block⟩
                  obtain ⟨d0, d1, d2, kb⟩ : ∃ d0 d1 d2, Blk w3 (w.heap.size + 1 + 1) [d0, d1, d2] 37 := by
                    have k2 := b2.below hb3 b2.lt
                    match c2, hc2, k2 with
                    | [d0, d1, d2], _, k2 => exact ⟨d0, d1, d2, k2⟩
                  have n2' := (b0.below hb3 b0.lt).cell 2 _ rfl
                  have e0 := kb.cell 0 _ rfl
                  have e1 := kb.cell 1 _ rfl
                  have e2 := kb.cell 2 _ rfl
                  have ff := kb.frozen
                  obtain ⟨r1, r2, r3, r4, r5⟩ := put_res kb hl3 (bw.trans (hb3.mono bw.size)) (.pointer u3) (.string s) (.int .u64 N)
                  clear kb hb3 hb3' hl3 HS hla' hlb' b0 b1 b2 bw eM eT hlM hlT hlst heq
                  go_wp2
                  exact bodyPost_ret (v := .agg #[.pointer u3, .string s, .int .u64 N]) (by simp [results, Try.results13, go_sem, r3, r4, r5]) rfl ⟨u3, rfl, by rw [HJ.out]; exact r1, r2⟩
            · obtain rfl : k = m - sk := by omega
              go_wp2
              go_meet
              case rel => exact ⟨q, rfl, by rw [HJ.out]; exact join_done HM.out HS.out (.inl (Nat.le_refl _))⟩
end Go.Proofs.Qxb6617666a
