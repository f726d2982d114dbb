import Derived.Test.Qxb6616645aRun
import Derived.Test.Qxb6616645aNew
namespace Go.Proofs.Qxb6616645a
open Go.RowKit
set_option linter.unusedSimpArgs false
set_option linter.unusedVariables false

theorem zzrun (bm : Nat) (w : World) (R : World → Prop) (h : Calls Try.prog 13 #[.pointer (some ⟨bm, 0, none⟩)] w fun e w' => e = .returned (.tuple #[]) ∧ R w') :
    Calls Try.prog 7 #[.pointer (some ⟨bm, 0, none⟩)] w fun e w' => e = .returned (.tuple #[]) ∧ R w' := by
  have H : Hid _ := h
  clear h
  go_enter Try.func7, Try.ntmps7
  go_wp2_with (go_at_call 13; refine Calls.mono (Hid.out H) ?_; rintro e w' ⟨rfl, hr⟩)
  go_end0
  exact ⟨rfl, hr⟩

theorem readers_mx {bm hi n : Nat} {r : Int} {x : Bool} {xs : Nat → Bool} {w : World} (h : Mx w bm hi r x n xs) :
    Calls Try.prog 8 #[.pointer (some ⟨bm, 0, none⟩)] w fun e w' => e = .returned (.int .i64 r) ∧ w' = w := by
  obtain ⟨_, _, v, ps, hb, _⟩ := h
  exact readers_any bm _ _ _ _ r w hb
theorem writing_mx {bm hi n : Nat} {r : Int} {x : Bool} {xs : Nat → Bool} {w : World} (h : Mx w bm hi r x n xs) :
    Calls Try.prog 9 #[.pointer (some ⟨bm, 0, none⟩)] w fun e w' => e = .returned (.bool x) ∧ w' = w := by
  obtain ⟨_, _, v, ps, hb, _⟩ := h
  exact writing_any bm _ _ _ _ x w hb
theorem queue_mx {bm hi n : Nat} {r : Int} {x : Bool} {xs : Nat → Bool} {w : World} (h : Mx w bm hi r x n xs) (hn : n ≤ 1099511627776) :
    Calls Try.prog 11 #[.pointer (some ⟨bm, 0, none⟩)] w fun e w' => e = .returned (.slice (some ⟨w.heap.size, 0, none⟩) n n) ∧
      (∀ i, i < n → w'.cell? ⟨w.heap.size, 0 + i, none⟩ = some (.bool (xs i))) ∧ w.heap.size < w'.heap.size ∧ Below w.heap.size w w' := by
  obtain ⟨_, _, v, ps, hb, hq⟩ := h
  obtain ⟨ao, cap, rfl⟩ := hq.form
  refine (queue_any bm n cap ao _ _ _ _ xs w hn hb ?_).mono ?_
  · intro i hi
    obtain ⟨g, cap', cs, p, c, hv, h1, h2, h3, h4, h5, _⟩ := hq.head (by omega)
    simp only [Value.slice.injEq] at hv
    obtain ⟨rfl, _, rfl⟩ := hv
    obtain ⟨⟨p, c⟩, hp⟩ : ∃ q, ps[i]? = some q := ⟨_, List.getElem?_eq_getElem (by have := hq.len; omega)⟩
    refine ⟨g, p, rfl, h3.cell i _ ?_, (hq.node i _ hp).1.cell 0 _ rfl⟩
    have : (cs.take n)[i]? = some (.pointer (some ⟨p, 0, none⟩)) := by rw [h5]; simp [ptrs, hp]
    rwa [List.getElem?_take_of_lt hi] at this
  · rintro e w' ⟨rfl, hown, hbel⟩
    refine ⟨rfl, fun i hi => ?_, (hown.lt _ rfl).2, hbel⟩
    have := hown.cells rfl i _ (bools_get hi)
    rw [Addr.add_lit] at this
    exact this

/-- Where the readers stand when 'done' of them have left. -/
def St (wr : World) (bm hi : Nat) (r : Int) (n : Nat) (xs : Nat → Bool) (done : Int) : Prop :=
  (done = r ∧ 0 < n → Mx wr bm hi 0 true (n - 1) (fun i => xs (i + 1))) ∧ (¬ (done = r ∧ 0 < n) → Mx wr bm hi (r - done) false n xs)

theorem st_step {bm hi n : Nat} {r d : Int} {xs : Nat → Bool} {w : World} (hd : d < r) (h0 : 0 ≤ d) (hr : r ≤ 65536) (hst : St w bm hi r n xs d) (hx : 0 < n → xs 0 = true) :
    Calls Try.prog 7 #[.pointer (some ⟨bm, 0, none⟩)] w fun e w' => e = .returned (.tuple #[]) ∧ Within bm hi w w' ∧ St w' bm hi r n xs (d + 1) ∧ Mx w' bm hi (r - (d + 1)) (decide (r - (d + 1) = 0 ∧ 0 < n)) (if r - (d + 1) = 0 ∧ 0 < n then n - 1 else n) (if r - (d + 1) = 0 ∧ 0 < n then fun i => xs (i + 1) else xs) := by
  apply zzrun
  have hm := hst.2 (by omega)
  by_cases hl : r - (d + 1) = 0 ∧ 0 < n
  · obtain ⟨m, rfl⟩ : ∃ m, n = m + 1 := ⟨n - 1, by omega⟩
    have e : r - d = 1 := by omega
    rw [e] at hm
    refine (run_last bm hi m xs w hm (hx (by omega))).mono ?_
    rintro e w' ⟨rfl, hw, hm'⟩
    refine ⟨rfl, hw, ⟨fun _ => hm', fun h => absurd ⟨by omega, by omega⟩ h⟩, ?_⟩
    rw [if_pos hl, if_pos hl, decide_eq_true hl, hl.1]
    exact hm'
  · refine (run_stay bm hi n (r - d) xs w (by omega) (by omega) hm hx (by omega)).mono ?_
    rintro e w' ⟨rfl, hw, hm'⟩
    have e : r - d - 1 = r - (d + 1) := by omega
    rw [e] at hm'
    refine ⟨rfl, hw, ⟨fun h => absurd ⟨by omega, h.2⟩ hl, fun _ => hm'⟩, ?_⟩
    rw [if_neg hl, if_neg hl, decide_eq_false hl]
    exact hm'
end Go.Proofs.Qxb6616645a
