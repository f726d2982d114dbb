import Derived.Test.Qxb6615221aFmtClone
namespace Go.Proofs.Qxb6615221aFmt
open Go.RowKit
set_option linter.unusedVariables false
set_option linter.unusedSimpArgs false

/-- What is left when each copy of r is taken out. -/
def wo (r : Int) (l : List Int) : List Int := l.filter fun x => x != r
theorem wo_snoc (r t : Int) (l : List Int) : wo r (l ++ [t]) = if t = r then wo r l else wo r l ++ [t] := by
  unfold wo
  by_cases h : t = r <;> simp [h]
theorem wo_le (r : Int) (l : List Int) : (wo r l).length ≤ l.length := List.length_filter_le _ _
theorem wo_lt (r : Int) (l : List Int) : (wo r l).length < l.length ↔ r ∈ l := by
  unfold wo
  have h := List.length_filter_lt_length_iff_exists (p := fun x => x != r) (l := l)
  rw [h]
  simp
theorem wo_not (r : Int) (l : List Int) : ¬ r ∈ wo r l := by
  unfold wo
  simp

theorem Rd.take {w : World} {a : Option Addr} {l : List Int} (h : Rd w a l) (k : Nat) : Rd w a (l.take k) := by
  intro i x hi
  refine h i x ?_
  rw [List.getElem?_take] at hi
  split at hi
  · exact hi
  · cases hi

theorem Rd.right {w : World} {g : Nat} {l : List Int} (h : Rd w (some ⟨g, 0, none⟩) l) (k : Nat) : Rd w (some ⟨g, k, none⟩) (l.drop k) := by
  have := h.drop k
  rwa [Nat.zero_add] at this

theorem Rd.owned3 {w : World} {base n g cap : Nat} {a b : List Int} {r : Int} (h : w.ownsRow base 3 1 (.slice (some ⟨g, 0, none⟩) n cap) n (ints a ++ [.int .i64 r] ++ ints b)) : Rd w (some ⟨g, 0, none⟩) (a ++ [r] ++ b) := by
  have e : ints a ++ [.int .i64 r] ++ ints b = ints (a ++ [r] ++ b) := by simp [ints]
  rw [e] at h
  exact Rd.owned h

/-- The ways of the law's tests. -/
inductive Way (r rank : Int) (k : Nat) (l : List Int) (T M : Nat) : Prop
  | left (h1 : Hid (r ∈ l)) (h2 : Hid (r ∈ l.take k)) (h3 : (T : Int) < M) (h4 : (r == rank) = false)
  | right (h1 : Hid (r ∈ l)) (h2 : Hid (¬ r ∈ l.take k)) (h2' : Hid (r ∈ l.drop k)) (h3 : (T : Int) < M) (h4 : (r == rank) = false)
  | out (h1 : Hid (¬ r ∈ l)) (h2 : Hid (¬ r ∈ l.take k)) (h2' : Hid (¬ r ∈ l.drop k)) (h3 : ¬ (T : Int) < M) (h4 : (r == rank) = true)
  | free (h1 : Hid (¬ r ∈ l)) (h2 : Hid (¬ r ∈ l.take k)) (h2' : Hid (¬ r ∈ l.drop k)) (h3 : ¬ (T : Int) < M) (h4 : (r == rank) = false)
theorem way (r rank : Int) (k : Nat) (l : List Int) (h : ∀ x ∈ l, x ≠ rank) : Way r rank k l (wo r l).length l.length := by
  have hlt := wo_lt r l
  have hsp : r ∈ l ↔ r ∈ l.take k ∨ r ∈ l.drop k := by
    conv => lhs; rw [← List.take_append_drop k l]
    exact List.mem_append
  by_cases hin : r ∈ l
  · have hne : (r == rank) = false := by simpa using h r hin
    have hT := hlt.2 hin
    by_cases hL : r ∈ l.take k
    · exact .left hin hL (by omega) hne
    · exact .right hin hL ((hsp.1 hin).resolve_left hL) (by omega) hne
  · have hT : ¬ (wo r l).length < l.length := fun h => hin (hlt.1 h)
    have h1 : ¬ r ∈ l.take k := fun h => hin (hsp.2 (.inl h))
    have h2 : ¬ r ∈ l.drop k := fun h => hin (hsp.2 (.inr h))
    by_cases hq : r = rank
    · exact .out hin h1 h2 (by omega) (by simpa using hq)
    · exact .free hin h1 h2 (by omega) (by simpa using hq)

set_option maxRecDepth 100000 in
set_option maxHeartbeats 4000000 in
theorem law_good (rank d r : Int) (n m i k cap : Nat) (ad : Addr) (l : List Int) (w : World) (hdom : Dom rank n d) (hr0 : 0 ≤ r) (hrn : r < n) (hi : i ≤ m) (hk : k ≤ m) (hm : m = l.length) (hl : m ≤ 65536) (hr : Rd w (some ad) l) :
    Calls Tryf.prog 3 #[.int .i64 rank, .int .i64 n, .int .i64 d, .slice (some ad) m cap, .int .i64 r, .int .i64 i, .int .i64 k] w fun e w' => e = .returned (.bool true) ∧ Below w.heap.size w w' := by
  obtain ⟨i0, hi0, hz0, hz1, hz2⟩ := info_parts info3
  have HM := hide hm
  have HB := hide (bytes_any rank n d r i k (some ad) m cap w (by unfold maxLen; omega))
  have HD := hide hdom
  have hHD := hide (dom_any rank n d w)
  have e1 : ¬ (65536 : Int) < m := by omega
  have e2 : (m : Int) ≤ 1048576 := by omega
  have e3 : ¬ r < 0 := by omega
  have e4 : ¬ (n : Int) ≤ r := by omega
  have e5 : ¬ (m : Int) < i := by omega
  have e6 : ¬ (m : Int) < k := by omega
  have HR := hide hr
  clear hm hdom hr
  go_enter Tryf.func3, Tryf.ntmps3
  go_wp2_with (first
    | (go_at_call 4; refine Calls.mono (Hid.out HB) ?_; rintro e w' ⟨rfl, hw⟩; subst w'; rw [decide_eq_true e2])
    | (go_at_call 5; refine Calls.mono (Hid.out hHD) ?_; rintro e w' ⟨rfl, hw⟩; subst w'; rw [decide_eq_true HD.out]))
  clear HB hHD
  go_loop [15] (fun j => ∃ q : Nat, q ≤ m ∧ j = .int .i64 q ∧ Hid (∀ x ∈ l.take q, x ≠ rank)) (fun j => m - (intOf j).toNat)
  case atStart => exact ⟨0, Nat.zero_le _, rfl, hide (by simp)⟩
  case round =>
    obtain ⟨q, hq, rfl, hno⟩ := hrel
    by_cases hqm : q < m
    · obtain ⟨t, ht⟩ : ∃ t, l[q]? = some t := ⟨_, List.getElem?_eq_getElem (by rw [← HM.out]; exact hqm)⟩
      obtain ⟨b, o, hbo, hc⟩ := HR.out q t ht
      obtain rfl := Option.some.inj hbo
      clear hbo
      have ht1 : l.take (q + 1) = l.take q ++ [t] := by rw [List.take_add_one, ht]; rfl
      have HT : Hid (t ≠ rank → ∀ x ∈ l.take (q + 1), x ≠ rank) := hide (by
        rw [ht1]
        intro h x hx
        rcases List.mem_append.1 hx with h1 | h1
        · exact hno.out x h1
        · rw [List.mem_singleton.1 h1]; exact h)
      clear ht ht1
      by_cases g1 : t < 0
      · go_wp2
        go_ret
        exact ⟨rfl, Below.refl _ _⟩
      by_cases g2 : (n : Int) ≤ t
      · go_wp2
        go_ret
        exact ⟨rfl, Below.refl _ _⟩
      by_cases g3 : t = rank
      · have g3' : (t == rank) = true := by simpa using g3
        clear g3
        go_wp2
        go_ret
        exact ⟨rfl, Below.refl _ _⟩
      · have g3' : (t == rank) = false := by simpa using g3
        go_wp2
        go_round
        case rel => exact ⟨q + 1, by omega, by go_num, hide (HT.out g3)⟩
        case measure => simp [intOf]; omega
    · have hall : ∀ x ∈ l, x ≠ rank := by
        have e : l.take q = l := List.take_of_length_le (by rw [← HM.out]; omega)
        have := hno.out
        rwa [e] at this
      have HW := hide (way r rank k l hall)
      clear hno hall
      go_wp2_with fail
      refine (clone_some m cap ad l w HR.out HM.out (by omega)).mono ?_
      rintro e w1 ⟨rfl, hr1, hb1⟩
      have HR1 := hide hr1
      clear hr1 HR
      · go_wp2_with (first
          | (at_make; refine wpList_make_own _ rfl _ (.tmp 94) 22 rfl w1.heap.size 3 i0 (.int .i64 0) 1 Tryf.underlying22 hi0 hz0 hz1 _ _ _ m rfl rfl (by omega) (by rw [hz2]; omega) (by unfold maxLen; omega) (Nat.le_refl _) ?_; intro w2 hown2 hgrow2; have hb2 := Below.grown (Below.refl w1.heap.size w1) hgrow2 (Nat.le_refl _) (by simp); clear hgrow2))
        go_loopw [16, 17] (fun v j wq => ∃ q T : Nat, q ≤ m ∧ T ≤ q ∧ j = .int .i64 q ∧ v = .slice (some ⟨w1.heap.size, 0, none⟩) T m ∧ Hid (T = (wo r (l.take q)).length) ∧ wq.ownsRow w1.heap.size 3 1 (.slice (some ⟨w1.heap.size, 0, none⟩) T m) T (ints (wo r (l.take q))) ∧ Below w1.heap.size w1 wq) (fun _ j _ => m - (intOf j).toNat)
        case atStart => exact ⟨0, 0, Nat.zero_le _, Nat.zero_le _, rfl, rfl, hide (by simp [wo]), by simpa [wo, ints] using hown2, hb2⟩
        case round =>
          clear hown2 hb2 hqm hq
          obtain ⟨q, T, hq, hT, rfl, rfl, HT, hown, hb2⟩ := hrel
          rename World => V
          by_cases hqm : q < m
          · obtain ⟨t, ht⟩ : ∃ t, l[q]? = some t := ⟨_, List.getElem?_eq_getElem (by rw [← HM.out]; exact hqm)⟩
            obtain ⟨b, o, e, hc⟩ := HR1.out q t ht
            simp only [Option.some.injEq, Addr.mk.injEq, and_true] at e
            obtain ⟨rfl, rfl⟩ := e
            have hc' := (hb2.cell (p := ⟨w.heap.size, 0 + q, none⟩) (World.block_lt_of_cell? w1 ⟨w.heap.size, 0 + q, none⟩ hc)).trans hc
            rw [Nat.zero_add] at hc'
            have ht1 : l.take (q + 1) = l.take q ++ [t] := by rw [List.take_add_one, ht]; rfl
            have hw1 := wo_snoc r t (l.take q)
            rw [← ht1] at hw1
            clear hc ht ht1
            by_cases htr : t = r
            · rw [if_pos htr] at hw1
              have HW1 := hide hw1
              have htr' : (t == r) = true := by simpa using htr
              clear hw1 htr
              go_wp2
              go_roundw
              case rel => exact ⟨q + 1, T, by omega, by omega, by go_num, rfl, by rw [HW1.out]; exact HT, by rw [HW1.out]; exact hown, hb2⟩
              case measure => simp [intOf]; omega
            · rw [if_neg htr] at hw1
              have HW1 := hide hw1
              have htr' : (t == r) = false := by simpa using htr
              have hsz := hb2.size
              clear hw1 htr
              go_wp2_with (at_builtin; refine wpList_append_fits _ rfl (.tmp 108) (.tmp 113) 22 rfl w1.heap.size 3 i0 1 Tryf.underlying22 hi0 hz1 w1.heap.size T m (ints (wo r (l.take q))) rfl (hown.alloc _) ⟨V.heap.size, 0, none⟩ 1 1 [.int .i64 t] rfl rfl (one_cell _ _ _) (ints_one [t]) (by omega) ?_; intro w3 hown3 hgrow3; have hb3 := Below.grown (hb2.alloc hsz (.cells #[.int .i64 t] 3)) hgrow3 (by simp; omega) (by simp); clear hgrow3)
              go_roundw
              case rel => exact ⟨q + 1, T + 1, by omega, by omega, by go_num, rfl, hide (by rw [HW1.out, List.length_append, ← HT.out]; rfl), by rw [HW1.out, ← ints_append]; exact hown3, hb3⟩
              case measure => simp [intOf]; omega
          · have hql : l.take q = l := List.take_of_length_le (by rw [← HM.out]; omega)
            rw [hql] at hown HT
            have hTT := HT.out
            have hway := HW.out
            rw [← hTT, ← HM.out] at hway
            have HRV := hide (HR1.out.below hb2 (Nat.le_refl _))
            have HWO := hide (Rd.owned hown)
            have hbw := hb1.trans (hb2.mono hb1.size)
            have HTT := hide hTT
            clear hown HT hTT HW HR1 hb2 hb1
            rcases hway with ⟨h1, h2, h3, h4⟩ | ⟨h1, h2, h2', h3, h4⟩ | ⟨h1, h2, h2', h3, h4⟩ | ⟨h1, h2, h2', h3, h4⟩
            all_goals
              go_wp2_with fail
              refine (with_any rank d n _ _ _ l V HD.out HRV.out (by have := HM.out; omega) (by omega)).mono ?_
              rintro e W1 ⟨p1, rfl, hp1, hB1⟩
              go_wp2_with fail
              refine (zzasked_any p1 r l W1 hp1 (by have := HM.out; omega)).mono ?_
              rintro e W2 ⟨rfl, hB2⟩
              first | rw [decide_eq_true h1.out] | rw [decide_eq_false h1.out]
              have hb2 := hB1.trans (hB2.mono hB1.size)
              clear hp1 hB1 hB2
              go_wp2_with fail
              refine (with_any rank d n _ _ _ (l.take k) W2 HD.out ((HRV.out.below hb2 (Nat.le_refl _)).take k) (by rw [List.length_take]; have := HM.out; omega) (by omega)).mono ?_
              rintro e W3 ⟨p1, rfl, hp1, hB1⟩
              go_wp2_with fail
              refine (zzasked_any p1 r (l.take k) W3 hp1 (by rw [List.length_take]; have := HM.out; omega)).mono ?_
              rintro e W4 ⟨rfl, hB2⟩
              first | rw [decide_eq_true h2.out] | rw [decide_eq_false h2.out]
              have hb4 := hb2.trans ((hB1.trans (hB2.mono hB1.size)).mono hb2.size)
              clear hp1 hB1 hB2 hb2
              by_cases hkm : m = k
              all_goals
                go_wp2_with fail
                refine (with_any rank d n _ _ _ (l.drop k) W4 HD.out (by first | (rw [List.drop_eq_nil_of_le (by have := HM.out; omega)]; exact Rd.nil _ _) | exact (HRV.out.below hb4 (Nat.le_refl _)).right k) (by rw [List.length_drop]; have := HM.out; omega) (by omega)).mono ?_
                rintro e W5 ⟨p1, rfl, hp1, hB1⟩
                go_wp2_with fail
                refine (zzasked_any p1 r (l.drop k) W5 hp1 (by rw [List.length_drop]; have := HM.out; omega)).mono ?_
                rintro e W6 ⟨rfl, hB2⟩
                first | rw [decide_eq_true h2'.out] | rw [decide_eq_false h2'.out] | skip
                have hb6 := hb4.trans ((hB1.trans (hB2.mono hB1.size)).mono hb4.size)
                clear hp1 hB1 hB2 hb4
                go_wp2_with fail
                refine (with_any rank d n _ _ _ (wo r l) W6 HD.out (HWO.out.below hb6 (Nat.le_refl _)) (by have := HTT.out; omega) (by omega)).mono ?_
                rintro e W7 ⟨p1, rfl, hp1, hB1⟩
                go_wp2_with fail
                refine (zzasked_any p1 r (wo r l) W7 hp1 (by have := HTT.out; omega)).mono ?_
                rintro e W8 ⟨rfl, hB2⟩
                rw [decide_eq_false (wo_not r l)]
                have hb8 := hb6.trans ((hB1.trans (hB2.mono hB1.size)).mono hb6.size)
                clear hp1 hB1 hB2 hb6
                first
                | (go_wp2
                   go_ret
                   exact ⟨rfl, hbw.trans (hb8.mono hbw.size)⟩)
                | (obtain ⟨C, hC⟩ : ∃ C, C = m + 1 := ⟨_, rfl⟩
                   have HCC := hide hC
                   clear hC
                   by_cases him : m = i
                   all_goals
                     first | have him2 : k = i := by omega | have him2 : ¬ k = i := by omega | skip
                     first | have hik : i ≤ k := by omega | skip
                     have HKM := hide hkm
                     clear hkm
                     go_wp2_with (first
                       | (at_make; refine wpList_make_own _ rfl _ (.tmp 167) 22 rfl W8.heap.size 3 i0 (.int .i64 0) 1 Tryf.underlying22 hi0 hz0 hz1 _ _ _ C rfl rfl (by have := HCC.out; have := HKM.out; omega) (by rw [hz2]; have := HCC.out; omega) (by unfold maxLen; have := HCC.out; omega) (Nat.le_refl _) ?_; intro w9 hown9 hgrow9; have hb9 := Below.grown (Below.refl W8.heap.size W8) hgrow9 (Nat.le_refl _) (by simp); clear hgrow9)
                       | (at_builtin; refine wpList_append_fits_any _ rfl (.tmp 169) (.tmp 172) 22 rfl W8.heap.size 3 i0 1 Tryf.underlying22 hi0 hz1 W8.heap.size 0 C [] rfl hown9 _ i _ (ints (l.take i)) rfl (by rw [ints_length, List.length_take]; have := HM.out; omega) (fun h => by cases h) (((HRV.out.below hb8 (Nat.le_refl _)).below hb9 (Nat.le_refl _)).take i).news (ints_one _) (by have := HCC.out; omega) ?_; intro w10 hown10 hgrow10; have hb10 := Below.grown hb9 hgrow10 hb9.size (by simp); clear hgrow10; simp only [Nat.zero_add, List.nil_append] at hown10)
                       | (at_builtin; refine wpList_append_fits _ rfl (.tmp 174) (.tmp 176) 22 rfl W8.heap.size 3 i0 1 Tryf.underlying22 hi0 hz1 W8.heap.size i C (ints (l.take i)) rfl (hown10.alloc _) ⟨w10.heap.size, 0, none⟩ 1 1 [.int .i64 r] rfl rfl (one_cell _ _ _) (ints_one [r]) (by have := HCC.out; omega) ?_; intro w11 hown11 hgrow11; have hb11 := Below.grown (hb10.alloc hb10.size (.cells #[.int .i64 r] 3)) hgrow11 (by simp; have := hb10.size; omega) (by simp); clear hgrow11)
                       | (at_builtin; refine wpList_append_fits_any _ rfl (.tmp 178) (.tmp 181) 22 rfl W8.heap.size 3 i0 1 Tryf.underlying22 hi0 hz1 W8.heap.size (i + 1) C (ints (l.take i) ++ [.int .i64 r]) rfl hown11 _ _ _ (ints (l.drop i)) rfl (by rw [ints_length, List.length_drop]; have := HM.out; have := HKM.out; omega) (fun h => by cases h) (Rd.news (by first | (rw [List.drop_eq_nil_of_le (by have := HM.out; omega)]; exact Rd.nil _ _) | exact ((HRV.out.below hb8 (Nat.le_refl _)).below hb11 (Nat.le_refl _)).right i)) (ints_one _) (by have := HCC.out; have := HKM.out; omega) ?_; intro w12 hown12 hgrow12; have hb12 := Below.grown hb11 hgrow12 hb11.size (by simp); clear hgrow12))
                     have hb10' := hb8.trans (hb12.mono hb8.size)
                     have HO := hide (Rd.owned3 hown12)
                     clear hown9 hown10 hown11 hown12 hb9 hb10 hb11 hb12 hb8
                     refine (with_any rank d n _ _ _ (l.take i ++ [r] ++ l.drop i) w12 HD.out HO.out (by rw [List.length_append, List.length_append, List.length_take, List.length_drop]; have := HM.out; have := HKM.out; simp; omega) (by have := HKM.out; omega)).mono ?_
                     rintro e W9 ⟨p1, rfl, hp1, hB1⟩
                     go_wp2_with fail
                     refine (zzasked_any p1 r (l.take i ++ [r] ++ l.drop i) W9 hp1 (by rw [List.length_append, List.length_append, List.length_take, List.length_drop]; have := HM.out; simp; omega)).mono ?_
                     rintro e W10 ⟨rfl, hB2⟩
                     rw [decide_eq_true (by simp)]
                     have hb12 := hb10'.trans ((hB1.trans (hB2.mono hB1.size)).mono hb10'.size)
                     clear hp1 hB1 hB2 hb10'
                     go_wp2
                     go_ret
                     exact ⟨rfl, hbw.trans (hb12.mono hbw.size)⟩)
end Go.Proofs.Qxb6615221aFmt
