import Derived.Test.Qxb6617679aTop
namespace Go.Proofs.Qxb6617679a
open Go.RowKit
set_option linter.unusedVariables false
set_option linter.unusedSimpArgs false

theorem cont_cases (l : List Int) (hz : l[0]? ≠ some 0) (hb : Byt l) : (l = [] ∧ cont l = [0]) ∨ (∃ x m, l = x :: m ∧ 128 ≤ x ∧ x ≤ 255 ∧ cont l = 0 :: x :: m) ∨ (∃ x m, l = x :: m ∧ 0 < x ∧ x < 128 ∧ cont l = x :: m) := by
  cases l with
  | nil => exact .inl ⟨rfl, rfl⟩
  | cons x m =>
    have h := hb x (by simp)
    have h0 : x ≠ 0 := by intro e; subst e; simp at hz
    by_cases h1 : 128 ≤ x
    · exact .inr (.inl ⟨x, m, rfl, h1, h.2, by simp [cont, h1]⟩)
    · exact .inr (.inr ⟨x, m, rfl, by omega, by omega, by simp [cont, h1]⟩)
theorem cont_len (l : List Int) : 1 ≤ (cont l).length ∧ (cont l).length ≤ l.length + 1 := by
  cases l with
  | nil => simp [cont]
  | cons x m =>
    by_cases h : 128 ≤ x <;> simp [cont, h]

theorem eui_at (a : Option Addr) (n cap L : Nat) (l : List Int) (w : World) (hn : n = l.length) (h : In w a cap l) (hL : L = (cont l).length) :
    Calls Try.prog 5 #[.slice a n cap] w fun e w' => ∃ g N c, e = .returned (.slice (some ⟨g, 0, none⟩) N c) ∧ Hid (N = 1 + (head L).length + L) ∧ Hid (c = 6 + L) ∧ Rd w' (some ⟨g, 0, none⟩) (2 :: (head L ++ cont l)) ∧ Below w.heap.size w w' := by
  subst hn
  exact eui_any a cap L l w h hL

set_option maxRecDepth 100000 in
set_option maxHeartbeats 1000000 in
theorem law_any (a : Option Addr) (n cap : Nat) (l : List Int) (w : World) (hn : n = l.length) (hr : Rd w a l) (hb : Byt l) (hl : n ≤ 9223372036854775807) (hnil : a = none → n = 0 ∧ cap = 0) :
    Calls Try.prog 3 #[.slice a n cap] w fun e w' => e = .returned (.bool true) ∧ Below w.heap.size w w' := by
  have HN := hide hn
  clear hn
  by_cases k1 : n ≤ 1048576
  case neg =>
    go_enter Try.func3, Try.ntmps3
    go_wp2_with (go_at_call 4; refine Calls.mono (bytes_any _ _ _ _ hl) ?_; rintro e w' ⟨rfl, hw⟩; subst w'; simp only [k1, decide_false])
    go_ret
    exact ⟨rfl, Below.refl _ _⟩
  case pos =>
    have k2 : ¬ (1048576 : Int) < n := by omega
    by_cases hz : l[0]? = some 0
    · obtain ⟨b, o, rfl, hc⟩ := hr.one (List.getElem?_eq_some_iff.1 hz).1
      have c0 := hc 0 0 hz
      rw [Nat.add_zero] at c0
      have n0 : (0 : Int) < n := by have := (List.getElem?_eq_some_iff.1 hz).1; rw [← HN.out] at this; omega
      clear hc
      go_enter Try.func3, Try.ntmps3
      go_wp2_with (go_at_call 4; refine Calls.mono (bytes_any _ _ _ _ hl) ?_; rintro e w' ⟨rfl, hw⟩; subst w'; simp only [k1, decide_true])
      go_ret
      exact ⟨rfl, Below.refl _ _⟩
    · have hA : (¬ (0 : Int) < n) ∨ ∃ b o x, (0 : Int) < n ∧ a = some ⟨b, o, none⟩ ∧ w.cell? ⟨b, o, none⟩ = some (.int .u8 x) ∧ (x == 0) = false := by
        by_cases h0 : n = 0
        · exact .inl (by omega)
        · obtain ⟨b, o, rfl, hc⟩ := hr.one (by rw [← HN.out]; omega)
          obtain ⟨x, hx⟩ : ∃ x, l[0]? = some x := ⟨_, List.getElem?_eq_getElem (by rw [← HN.out]; omega)⟩
          refine .inr ⟨b, o, x, by omega, rfl, hc 0 x hx, ?_⟩
          have : x ≠ 0 := by intro e; subst e; exact hz hx
          simpa using this
      have HR := hide hr
      have HZ := hide hz
      have HNil := hide hnil
      have hmk := run_make_row' (P := Try.prog) 22 5 (.int .u8 0) 1 Try.underlying22 info5 rfl .i64 .i64 n (by omega) (by omega)
      have HG := hide (show (w.alloc (.cells (madeCells #[.int .u8 0] n) 5)).heap[w.heap.size]? = some (.cells (madeCells #[.int .u8 0] n).toList.toArray 5 (0, 0)) by simpa using heap_alloc_new w _)
      clear hr hz hnil
      have hB : (a = none ∧ cap = 0 ∧ Hid (n = 0) ∧ ¬ (0 : Int) < n) ∨ (∃ ad, a = some ad ∧ ¬ (0 : Int) < n) ∨ (∃ b o x, (0 : Int) < n ∧ a = some ⟨b, o, none⟩ ∧ w.cell? ⟨b, o, none⟩ = some (.int .u8 x) ∧ (x == 0) = false) := by
        cases a with
        | none =>
          obtain ⟨h1, h2⟩ := HNil.out rfl
          exact .inl ⟨rfl, h2, h1, by omega⟩
        | some ad =>
          rcases hA with h | h
          · exact .inr (.inl ⟨ad, rfl, h⟩)
          · exact .inr (.inr h)
      clear hA
      rcases hB with ⟨rfl, rfl, hn0, h1⟩ | ⟨ad, rfl, h1⟩ | ⟨b, o, x, h1, rfl, h3, h4⟩
      all_goals
        go_enter Try.func3, Try.ntmps3
        go_upto_if 24 with (go_at_call 4; refine Calls.mono (bytes_any _ _ _ _ hl) ?_; rintro e w' ⟨rfl, hw⟩; subst w'; simp only [k1, decide_true])
        go_cut [0] from 8 (fun v wc => ∃ a c, v = .slice a n c ∧ Rd wc a l ∧ Hid (a = none → n = 0 ∧ c = 0) ∧ Below w.heap.size w wc)
        case first =>
          first
          | (go_wp2
             go_meet
             case rel => exact ⟨none, 0, rfl, HR.out, hide (fun _ => ⟨hn0.out, rfl⟩), Below.refl _ _⟩)
          | (go_wp2_with (refine wpList_copy_splice rfl (.tmp 28) (.tmp 29) 22 22 rfl 5 Try.underlying22 (by kernel_rfl) _ _ _ _ _ _ rfl rfl w.heap.size 0 (madeCells #[.int .u8 0] n).toList 5 HG.out (ints l) (by simp [ints_length, ← HN.out]) (HR.out.src _ _) (by simp [ints_length, size_madeCells, ← HN.out]) (ints_one _) w.heap.size w ((Below.refl _ _).alloc (Nat.le_refl _) _) (Nat.le_refl _) ?_; intro W HG2 hbel)
             go_meet
             case rel => exact ⟨_, _, rfl, Rd.made (by rw [← HN.out]; exact HG2), hide (fun h => by cases h), hbel⟩)
        case rest =>
          obtain ⟨a', c', rfl, hr, hnil, hbel⟩ := hcut
          rename World => V
          have HRR := hide hr
          clear hr hmk HG
          obtain ⟨L, hL⟩ : ∃ L, L = (cont l).length := ⟨_, rfl⟩
          have hcl := cont_len l
          rw [← hL, ← HN.out] at hcl
          have HL := hide hL
          clear hL
          go_wp2_with fail
          refine (eui_at a' n c' L l V HN.out ⟨HRR.out, hb, by rw [← HN.out]; exact k1, fun h => by rw [← HN.out]; exact hnil.out h⟩ HL.out).mono ?_
          rintro e W ⟨g, N, c, rfl, HN2, HC, hr2, hb2⟩
          go_wp2_with fail
          refine (parse_any g N c L (cont l) W hr2 HN2.out HC.out hcl.1 (by omega)).mono ?_
          rintro e W' ⟨o2, c2, rfl, hw, hlt, hr3⟩
          subst W'
          have HV := hide (HRR.out.below hb2 (Nat.le_refl _))
          have hbw := hbel.trans (hb2.mono hbel.size)
          clear hbel hb2 hr2
          rcases cont_cases l HZ.out hb with ⟨hl0, hc⟩ | ⟨x, m, hlx, hx1, hx2, hc⟩ | ⟨x, m, hlx, hx1, hx2, hc⟩
          · have hn : n = 0 := by rw [HN.out, hl0]; rfl
            have hL1 : L = 1 := by rw [HL.out, hc]; rfl
            rw [hc] at hr3
            have c0 := hr3.at (i := 0) rfl
            rw [Nat.add_zero] at c0
            have HD := hide (hr3.drop 1)
            subst hL1
            have e1 : ¬ c2 = 1 := by omega
            have HN0 := hide hn
            have HL0 := hide hl0
            clear hn hl0 hc hr3 hcl
            go_wp2
            go_loop [7] (fun i => ∃ k : Nat, k ≤ 1 ∧ i = .int .i64 k) (fun i => 1 - (intOf i).toNat)
            case atStart => exact ⟨0, by omega, rfl⟩
            case round =>
              obtain ⟨k, hk, rfl⟩ := hrel
              by_cases hk1 : k = 0
              · subst hk1
                go_wp2
                go_round
                case rel => exact ⟨1, by omega, rfl⟩
                case measure => simp [intOf]
              · obtain rfl : k = 1 := by omega
                go_wp2_with fail
                obtain rfl := HN0.out
                refine (beq_any _ _ 0 _ _ [] _ rfl (by omega) (Rd.nil _ _) (Rd.nil _ _)).mono ?_
                rintro e W' ⟨rfl, nq, hw⟩
                subst W'
                go_wp2
                go_ret
                exact ⟨rfl, below_drewN hbw _⟩
          · have hn : L = n + 1 := by rw [HL.out, HN.out, hc, hlx]; rfl
            have hn1 : 1 ≤ n := by rw [HN.out, hlx]; simp
            rw [hc] at hr3
            have c0 := hr3.at (i := 0) rfl
            have c1 := hr3.at (i := 1) rfl
            rw [Nat.add_zero] at c0
            have HD := hide (hr3.drop 1)
            subst hn
            have e1 : ¬ c2 = 1 := by omega
            have e2 : (x == 0) = false := by simp; omega
            have hand := and128 x (by omega) hx2
            rw [if_pos hx1] at hand
            have hXX := hide hlx
            have e3 : ¬ n = 0 := by omega
            have e4 : (1 : Int) < (n : Int) + 1 := by omega
            clear hlx hc hr3 hcl
            try clear hn0
            first
            | (exfalso; omega)
            | (go_wp2
               go_loop [7] (fun i => ∃ k : Nat, k ≤ 1 ∧ i = .int .i64 k) (fun i => 1 - (intOf i).toNat)
               case atStart => exact ⟨0, by omega, rfl⟩
               case round =>
                 obtain ⟨k, hk, rfl⟩ := hrel
                 by_cases hk1 : k = 0
                 · subst hk1
                   go_wp2
                   go_round
                   case rel => exact ⟨1, by omega, rfl⟩
                   case measure => simp [intOf]
                 · obtain rfl : k = 1 := by omega
                   go_wp2_with fail
                   refine (beq_any _ _ n _ _ l _ HN.out k1 (by rw [hXX.out]; exact HD.out) HV.out).mono ?_
                   rintro e W' ⟨rfl, nq, hw⟩
                   subst W'
                   go_wp2
                   go_ret
                   exact ⟨rfl, below_drewN hbw _⟩)
          · have hn : L = n := by rw [HL.out, HN.out, hc, hlx]
            have hn1 : 1 ≤ n := by rw [HN.out, hlx]; simp
            rw [hc] at hr3
            have c0 := hr3.at (i := 0) rfl
            rw [Nat.add_zero] at c0
            have HD := hide hr3
            subst hn
            have e1 : ¬ c2 = 0 := by omega
            have e2 : (x == 0) = false := by simp; omega
            have hand := and128 x (by omega) (by omega)
            rw [if_neg (by omega)] at hand
            have hXX := hide hlx
            have e3 : ¬ L = 0 := by omega
            have e4 : (0 : Int) < (L : Int) := by omega
            clear hlx hc hr3 hcl
            try clear hn0
            first
            | (exfalso; omega)
            | (by_cases h5 : (1 : Int) < (L : Int)
               all_goals
                 go_wp2
                 go_loop [7] (fun i => ∃ k : Nat, k ≤ 0 ∧ i = .int .i64 k) (fun i => 0)
                 case atStart => exact ⟨0, by omega, rfl⟩
                 case round =>
                   obtain ⟨k, hk, rfl⟩ := hrel
                   obtain rfl : k = 0 := by omega
                   go_wp2_with fail
                   refine (beq_any _ _ L _ _ l _ HN.out k1 (by rw [hXX.out]; exact HD.out) HV.out).mono ?_
                   rintro e W' ⟨rfl, nq, hw⟩
                   subst W'
                   go_wp2
                   go_ret
                   exact ⟨rfl, below_drewN hbw _⟩)
end Go.Proofs.Qxb6617679a
