import Derived.Test.Qxb6615221aFmtNil
namespace Go.Proofs.Qxb6615221aFmt
open Go.RowKit
set_option linter.unusedVariables false
set_option linter.unusedSimpArgs false

set_option maxRecDepth 100000 in
set_option maxHeartbeats 1000000 in
theorem law_bad (rank n d r i k : Int) (a : Option Addr) (m cap : Nat) (w : World) (hml : m ≤ maxLen)
    (h : ¬ ((m : Int) ≤ 1048576) ∨ (65536 : Int) < m ∨ ¬ Dom rank n d ∨ r < 0 ∨ n ≤ r ∨ i < 0 ∨ (m : Int) < i ∨ k < 0 ∨ (m : Int) < k) :
    Calls Tryf.prog 3 #[.int .i64 rank, .int .i64 n, .int .i64 d, .slice a m cap, .int .i64 r, .int .i64 i, .int .i64 k] w fun e w' => e = .returned (.bool true) ∧ Below w.heap.size w w' := by
  have HB := hide (bytes_any rank n d r i k a m cap w hml)
  have HD := hide (dom_any rank n d w)
  by_cases c1 : (m : Int) ≤ 1048576
  case neg =>
    clear h
    go_enter Tryf.func3, Tryf.ntmps3
    go_wp2_with (first
      | (go_at_call 4; refine Calls.mono (Hid.out HB) ?_; rintro e w' ⟨rfl, hw⟩; subst w'; rw [decide_eq_false c1]))
    go_ret
    exact ⟨rfl, Below.refl _ _⟩
  by_cases c2 : (65536 : Int) < m
  case pos =>
    clear h
    go_enter Tryf.func3, Tryf.ntmps3
    go_wp2_with (first
      | (go_at_call 4; refine Calls.mono (Hid.out HB) ?_; rintro e w' ⟨rfl, hw⟩; subst w'; rw [decide_eq_true c1]))
    go_ret
    exact ⟨rfl, Below.refl _ _⟩
  by_cases c3 : Dom rank n d
  case neg =>
    clear h
    have HC := hide c3
    clear c3
    go_enter Tryf.func3, Tryf.ntmps3
    go_wp2_with (first
      | (go_at_call 4; refine Calls.mono (Hid.out HB) ?_; rintro e w' ⟨rfl, hw⟩; subst w'; rw [decide_eq_true c1])
      | (go_at_call 5; refine Calls.mono (Hid.out HD) ?_; rintro e w' ⟨rfl, hw⟩; subst w'; rw [decide_eq_false HC.out]))
    go_ret
    exact ⟨rfl, Below.refl _ _⟩
  have HC := hide c3
  replace h : r < 0 ∨ n ≤ r ∨ i < 0 ∨ (m : Int) < i ∨ k < 0 ∨ (m : Int) < k := by
    rcases h with h | h | h | h
    · exact absurd c1 h
    · exact absurd h c2
    · exact absurd c3 h
    · exact h
  clear c3
  have hh : r < 0 ∨ (¬ r < 0 ∧ n ≤ r) ∨ (¬ r < 0 ∧ ¬ n ≤ r ∧ i < 0) ∨ (¬ r < 0 ∧ ¬ n ≤ r ∧ ¬ i < 0 ∧ (m : Int) < i) ∨ (¬ r < 0 ∧ ¬ n ≤ r ∧ ¬ i < 0 ∧ ¬ (m : Int) < i ∧ k < 0) ∨ (¬ r < 0 ∧ ¬ n ≤ r ∧ ¬ i < 0 ∧ ¬ (m : Int) < i ∧ ¬ k < 0 ∧ (m : Int) < k) := by omega
  clear h
  rcases hh with h1 | ⟨h1, h2⟩ | ⟨h1, h2, h3⟩ | ⟨h1, h2, h3, h4⟩ | ⟨h1, h2, h3, h4, h5⟩ | ⟨h1, h2, h3, h4, h5, h6⟩
  all_goals
    go_enter Tryf.func3, Tryf.ntmps3
    go_wp2_with (first
      | (go_at_call 4; refine Calls.mono (Hid.out HB) ?_; rintro e w' ⟨rfl, hw⟩; subst w'; rw [decide_eq_true c1])
      | (go_at_call 5; refine Calls.mono (Hid.out HD) ?_; rintro e w' ⟨rfl, hw⟩; subst w'; rw [decide_eq_true HC.out]))
    go_ret
    exact ⟨rfl, Below.refl _ _⟩

theorem law_any (rank n d r i k : Int) (a : Option Addr) (m cap : Nat) (l : List Int) (w : World) (hr : Rd w a l) (hm : m = l.length) (hml : m ≤ maxLen) (hnil : a = none → m = 0 ∧ cap = 0) :
    Calls Tryf.prog 3 #[.int .i64 rank, .int .i64 n, .int .i64 d, .slice a m cap, .int .i64 r, .int .i64 i, .int .i64 k] w fun e w' => e = .returned (.bool true) ∧ Below w.heap.size w w' := by
  by_cases h : ¬ ((m : Int) ≤ 1048576) ∨ (65536 : Int) < m ∨ ¬ Dom rank n d ∨ r < 0 ∨ n ≤ r ∨ i < 0 ∨ (m : Int) < i ∨ k < 0 ∨ (m : Int) < k
  · exact law_bad rank n d r i k a m cap w hml h
  · have hdom : Dom rank n d := by
      by_cases hd : Dom rank n d
      · exact hd
      · exact absurd (.inr (.inr (.inl hd))) h
    have h1 : ¬ ((65536 : Int) < m ∨ r < 0 ∨ n ≤ r ∨ i < 0 ∨ (m : Int) < i ∨ k < 0 ∨ (m : Int) < k) := fun q => h (by
      rcases q with q | q
      · exact .inr (.inl q)
      · exact .inr (.inr (.inr q)))
    have hn : 2 ≤ n := hdom.1
    obtain ⟨N, rfl⟩ : ∃ N : Nat, n = N := ⟨n.toNat, by omega⟩
    obtain ⟨I, rfl⟩ : ∃ I : Nat, i = I := ⟨i.toNat, by omega⟩
    obtain ⟨K, rfl⟩ : ∃ K : Nat, k = K := ⟨k.toNat, by omega⟩
    cases a with
    | none =>
      obtain ⟨rfl, rfl⟩ := hnil rfl
      obtain rfl : I = 0 := by omega
      obtain rfl : K = 0 := by omega
      exact law_nil rank d r N w hdom (by omega) (by omega)
    | some ad => exact law_good rank d r N m I K cap ad l w hdom (by omega) (by omega) (by omega) (by omega) hm (by omega) hr
end Go.Proofs.Qxb6615221aFmt
