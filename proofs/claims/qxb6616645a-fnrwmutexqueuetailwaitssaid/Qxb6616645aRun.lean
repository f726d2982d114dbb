import Derived.Test.Qxb6616645aGrant2
import Derived.Conc.MuLone
namespace Go.Proofs.Qxb6616645a
open Go.RowKit Go.MuLone
set_option linter.unusedSimpArgs false
set_option linter.unusedVariables false

/-- RUnlock out of what grant does to the world behind the two stores. -/
theorem run_core (bm : Nat) (r : Int) (x : Bool) (v : Value) (w : World) (h1 : 1 ≤ r) (h2 : r ≤ 9223372036854775807) (hb : Blk w bm [.int .i32 0, .int .u32 0, .int .i64 r, .bool x, v] 41) (R : World → Prop)
    (hR : ∀ w', R w' → ∃ c2 c3 c4, Blk w' bm [.int .i32 1, .int .u32 0, c2, c3, c4] 41)
    (hgrant : Calls Try.prog 16 #[.pointer (some ⟨bm, 0, none⟩)] ((w.setCell ⟨bm, 0, none⟩ (.int .i32 1)).setCell ⟨bm, 2, none⟩ (.int .i64 (r - 1))) fun e w' => e = .returned (.tuple #[]) ∧ R w') :
    Calls Try.prog 13 #[.pointer (some ⟨bm, 0, none⟩)] w fun e w' => e = .returned (.tuple #[]) ∧ ∃ w1, R w1 ∧ w' = w1.setCell ⟨bm, 0, none⟩ (.int .i32 0) := by
  have c0 := hb.cell 0 _ rfl
  have f0 := hb.frozen 0
  have hb1 := hb.set 0 (.int .i32 1)
  have c2 := hb1.cell 2 _ rfl
  have f2 := hb1.frozen 2
  have HG : Hid _ := hgrant
  have HR : Hid _ := hR
  have hne : (r == 0) = false := by simp; omega
  clear hb hb1 hgrant hR
  go_enter_defers Try.func13, Try.ntmps13
  go_wp2_with (first
    | (go_at_call 14; refine (lock_free Try.muLib ⟨bm, 0, none⟩ _ c0 f0).mono ?_; rintro e w' ⟨rfl, rfl⟩)
    | (go_at_call 16; refine Calls.mono (Hid.out HG) ?_; rintro e w1 ⟨rfl, hr⟩))
  obtain ⟨d2, d3, d4, hb2⟩ := HR.out w1 hr
  refine leaves_cons (f := 15) (args := #[.pointer (some ⟨bm, 0, none⟩)]) (by simp) (by simp [go_sem]) ?_
  refine (unlock_deferred Try.muLib ⟨bm, 0, none⟩ .returning _ (hb2.cell 0 _ rfl) (hb2.frozen 0)).mono ?_
  rintro e u' w'' ⟨rfl, rfl, rfl⟩
  exact ⟨_, results_none rfl _ _ _, rfl, w1, hr, rfl⟩

/-- What a mutex's own memory is, the lock's word let free. -/
theorem run_stay (bm hi n : Nat) (r : Int) (xs : Nat → Bool) (w : World) (h1 : 1 ≤ r) (h2 : r ≤ 9223372036854775807) (hm : Mx w bm hi r false n xs) (hx : 0 < n → xs 0 = true) (hno : n = 0 ∨ r ≠ 1) :
    Calls Try.prog 13 #[.pointer (some ⟨bm, 0, none⟩)] w fun e w' => e = .returned (.tuple #[]) ∧ Within bm hi w w' ∧ Mx w' bm hi (r - 1) false n xs := by
  obtain ⟨hlt, hle, v, ps, hb, hq⟩ := hm
  have hb2 := (hb.set 0 (.int .i32 1)).set 2 (.int .i64 (r - 1))
  simp only [List.set_cons_zero, List.set_cons_succ] at hb2
  have hW : ∀ u1 u2 u3, Within bm hi w (((w.setCell ⟨bm, 0, none⟩ u1).setCell ⟨bm, 2, none⟩ u2).setCell ⟨bm, 0, none⟩ u3) := fun u1 u2 u3 =>
    (((Within.refl bm hi w).setCell u1 (Nat.le_refl _) hlt).setCell u2 (Nat.le_refl _) hlt).setCell u3 (Nat.le_refl _) hlt
  have hq2 : Que ((w.setCell ⟨bm, 0, none⟩ (.int .i32 1)).setCell ⟨bm, 2, none⟩ (.int .i64 (r - 1))) (bm + 1) hi v n xs ps false := hq.same fun k hk _ => by
    rw [Below.heap_setCell _ _ _ _ (by simp; omega), Below.heap_setCell _ _ _ _ (by simp; omega)]
  have hgrant : Calls Try.prog 16 #[.pointer (some ⟨bm, 0, none⟩)] ((w.setCell ⟨bm, 0, none⟩ (.int .i32 1)).setCell ⟨bm, 2, none⟩ (.int .i64 (r - 1))) fun e w' => e = .returned (.tuple #[]) ∧ w' = ((w.setCell ⟨bm, 0, none⟩ (.int .i32 1)).setCell ⟨bm, 2, none⟩ (.int .i64 (r - 1))) := by
    by_cases hn : n = 0
    · subst hn
      obtain ⟨ao, cap, rfl⟩ := hq.form
      exact grant_empty bm cap ao _ _ _ _ _ hb2
    · obtain ⟨g, cap, cs, p, c, rfl, _, _, _, _, _, _, _, _, hg0, hnode⟩ := hq2.head (by omega)
      exact grant_shut bm g n cap p _ _ (r - 1) false (xs 0) _ (by omega) hb2 hg0 (hnode.cell 0 _ rfl) (by
        rw [hx (by omega)]
        have : r - 1 ≠ 0 := by omega
        simp [this])
  refine (run_core bm r false v w h1 h2 hb (fun w' => w' = _) (fun w' e => ⟨_, _, _, e ▸ hb2⟩) hgrant).mono ?_
  rintro e w' ⟨rfl, w1, rfl, rfl⟩
  refine ⟨rfl, hW _ _ _, hlt, by simpa [World.setCell] using hle, v, ps, hb2.set 0 _, hq2.same fun k hk _ => ?_⟩
  rw [Below.heap_setCell _ _ _ _ (by simp; omega)]

theorem run_last (bm hi m : Nat) (xs : Nat → Bool) (w : World) (hm : Mx w bm hi 1 false (m + 1) xs) (hx : xs 0 = true) :
    Calls Try.prog 13 #[.pointer (some ⟨bm, 0, none⟩)] w fun e w' => e = .returned (.tuple #[]) ∧ Within bm hi w w' ∧ Mx w' bm hi 0 true m (fun i => xs (i + 1)) := by
  obtain ⟨hlt, hle, v, ps, hb, hq⟩ := hm
  have hb2 := (hb.set 0 (.int .i32 1)).set 2 (.int .i64 (1 - 1))
  simp only [List.set_cons_zero, List.set_cons_succ] at hb2
  have hW : Within bm hi w ((w.setCell ⟨bm, 0, none⟩ (.int .i32 1)).setCell ⟨bm, 2, none⟩ (.int .i64 (1 - 1))) :=
    ((Within.refl bm hi w).setCell _ (Nat.le_refl _) hlt).setCell _ (Nat.le_refl _) hlt
  have hq2 : Que ((w.setCell ⟨bm, 0, none⟩ (.int .i32 1)).setCell ⟨bm, 2, none⟩ (.int .i64 (1 - 1))) (bm + 1) hi v (m + 1) xs ps false := hq.same fun k hk _ => by
    rw [Below.heap_setCell _ _ _ _ (by simp; omega), Below.heap_setCell _ _ _ _ (by simp; omega)]
  obtain ⟨g, cap, cs, p, c, rfl, _⟩ := hq2.head (by omega)
  have hgrant := grant_one bm hi g m cap _ _ xs ps _ hlt hb2 hq2 hx
  refine (run_core bm 1 false _ w (by omega) (by omega) hb _ (fun w' e => ⟨_, _, _, e.1⟩) hgrant).mono ?_
  rintro e w' ⟨rfl, w1, ⟨hb3, hq3, hw3⟩, rfl⟩
  refine ⟨rfl, (hW.trans hw3).setCell _ (Nat.le_refl _) hlt, hlt, ?_, _, ps.tail, hb3.set 0 _, hq3.same fun k hk _ => ?_⟩
  · have := (hW.trans hw3).size
    simp [World.setCell] at this ⊢
    omega
  · rw [Below.heap_setCell _ _ _ _ (by simp; omega)]

end Go.Proofs.Qxb6616645a
