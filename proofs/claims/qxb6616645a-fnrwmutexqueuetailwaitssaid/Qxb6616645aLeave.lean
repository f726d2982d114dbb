import Derived.Test.Qxb6616645aTop
import Derived.WalkLawsBesides
import Derived.Laws.CopyOwn
namespace Go.Proofs.Qxb6616645a
open Go.RowKit
set_option linter.unusedSimpArgs false
set_option linter.unusedVariables false

/-- A slice of bools that came in. -/
def IsB (w : World) (a : Option Addr) (len cap : Nat) (B : Nat → Bool) : Prop :=
  (a = none ∧ len = 0 ∧ cap = 0) ∨ ∃ x, a = some x ∧ len ≤ cap ∧ cap ≤ maxLen ∧ ∀ i, i < cap → w.cell? (x.add i) = some (.bool (B i))
theorem IsB.le {w : World} {a : Option Addr} {len cap : Nat} {B : Nat → Bool} (h : IsB w a len cap B) : len ≤ maxLen := by
  rcases h with ⟨_, rfl, _⟩ | ⟨x, _, h1, h2, _⟩ <;> omega
theorem IsB.at {w : World} {a : Option Addr} {len cap : Nat} {B : Nat → Bool} (h : IsB w a len cap B) (hl : 0 < len) : ∃ b o, a = some ⟨b, o, none⟩ ∧ ∀ i, i < len → w.cell? ⟨b, o + i, none⟩ = some (.bool (B i)) := by
  rcases h with ⟨_, rfl, _⟩ | ⟨⟨b, o, sp⟩, rfl, h1, h2, h3⟩
  · omega
  · have h0 := h3 0 (by omega)
    cases sp with
    | some s =>
      simp [Addr.add, World.cell?] at h0
      split at h0 <;> simp at h0
    | none => exact ⟨b, o, rfl, fun i hi => by rw [← Addr.add_lit]; exact h3 i (by omega)⟩

set_option maxHeartbeats 400000 in
theorem leave_early (r k : Int) (a : Option Addr) (len cap : Nat) (B : Nat → Bool) (w : World) (hB : IsB w a len cap B)
    (h : 65536 < len ∨ r < 1 ∨ 65536 < r ∨ k < 1 ∨ r < k ∨ (0 < len ∧ B 0 = false)) :
    Calls Try.prog 3 #[.int .i64 r, .slice a len cap, .int .i64 k] w fun e w' => e = .returned (.bool true) ∧ w' = w := by
  have hle := hB.le
  by_cases h1 : 65536 < len
  · clear h
    unfold maxLen at hle
    by_cases h2 : (len : Int) ≤ 1048576
    all_goals
      have hc := bytes5_any r k a len cap w hle
      simp only [h2, decide_true, decide_false] at hc
      have HC : Hid _ := hc
      clear hc
      go_enter Try.func3, Try.ntmps3
      go_wp2_with (go_at_call 5; refine Calls.mono (Hid.out HC) ?_; rintro e w' ⟨rfl, rfl⟩)
      go_ret
      exact ⟨rfl, rfl⟩
  have hc := bytes5_any r k a len cap w hle
  have h2 : (len : Int) ≤ 1048576 := by omega
  have h1' : ¬ ((65536 : Int) < len) := by omega
  simp only [h2, decide_true] at hc
  have HC : Hid _ := hc
  clear hc h2 h1
  unfold maxLen at hle
  by_cases hr : r < 1 ∨ 65536 < r
  · clear h
    rcases hr with hr | hr
    · go_enter Try.func3, Try.ntmps3
      go_wp2_with (go_at_call 5; refine Calls.mono (Hid.out HC) ?_; rintro e w' ⟨rfl, rfl⟩)
      go_ret
      exact ⟨rfl, rfl⟩
    · go_enter Try.func3, Try.ntmps3
      go_wp2_with (go_at_call 5; refine Calls.mono (Hid.out HC) ?_; rintro e w' ⟨rfl, rfl⟩)
      go_ret
      exact ⟨rfl, rfl⟩
  have hr1 : ¬ r < 1 := by omega
  have hr2 : ¬ 65536 < r := by omega
  clear hr
  by_cases hk : k < 1 ∨ r < k
  · clear h
    rcases hk with hk | hk
    · go_enter Try.func3, Try.ntmps3
      go_wp2_with (go_at_call 5; refine Calls.mono (Hid.out HC) ?_; rintro e w' ⟨rfl, rfl⟩)
      go_ret
      exact ⟨rfl, rfl⟩
    · go_enter Try.func3, Try.ntmps3
      go_wp2_with (go_at_call 5; refine Calls.mono (Hid.out HC) ?_; rintro e w' ⟨rfl, rfl⟩)
      go_ret
      exact ⟨rfl, rfl⟩
  have hk1 : ¬ k < 1 := by omega
  have hk2 : ¬ r < k := by omega
  clear hk
  obtain ⟨hl, hb⟩ : 0 < len ∧ B 0 = false := by
    rcases h with h | h | h | h | h | h
    · omega
    · omega
    · omega
    · omega
    · omega
    · exact h
  obtain ⟨b, o, rfl, hcell⟩ := hB.at hl
  have h0 := hcell 0 hl
  rw [hb] at h0
  have hl' : (0 : Int) < len := by omega
  clear hB h hb hcell
  simp only [Nat.add_zero] at h0
  go_enter Try.func3, Try.ntmps3
  go_wp2_with (go_at_call 5; refine Calls.mono (Hid.out HC) ?_; rintro e w' ⟨rfl, rfl⟩)
  go_ret
  exact ⟨rfl, rfl⟩
end Go.Proofs.Qxb6616645a
