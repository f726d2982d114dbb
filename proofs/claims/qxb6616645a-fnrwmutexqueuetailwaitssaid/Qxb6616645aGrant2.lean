import Derived.Test.Qxb6616645aGrant1
namespace Go.Proofs.Qxb6616645a
open Go.RowKit
set_option linter.unusedSimpArgs false
set_option linter.unusedVariables false

theorem mvd_one {cs : List Value} {m : Nat} {ps : List (Nat × Nat)} (h : cs.take (m + 1) = ptrs ps) : ∀ u ∈ mvd cs m, u.oneCell' = true := by
  intro u hu
  apply ptrs_one ps
  rw [← h]
  unfold mvd at hu
  have := List.mem_of_mem_drop (l := cs.take (m + 1)) (i := 1) (a := u) (by rw [List.drop_take]; simpa using hu)
  exact this

/-- The second round's test: the mutex is written: nothing is free. -/
def Fin (w : World) (bm hi g m cap : Nat) (c0 c1 : Value) (r : Int) (xs : Nat → Bool) (ps : List (Nat × Nat)) (wr : World) : Prop :=
  Blk wr bm [c0, c1, .int .i64 r, .bool true, .slice (some ⟨g, 0, none⟩) m cap] 41 ∧ Que wr (bm + 1) hi (.slice (some ⟨g, 0, none⟩) m cap) m (fun i => xs (i + 1)) ps.tail true ∧ Within bm hi w wr

set_option maxHeartbeats 1000000 in
theorem grant_one (bm hi g m cap : Nat) (c0 c1 : Value) (xs : Nat → Bool) (ps : List (Nat × Nat)) (w : World) (hbm : bm < hi)
    (hb : Blk w bm [c0, c1, .int .i64 0, .bool false, .slice (some ⟨g, 0, none⟩) (m + 1) cap] 41)
    (hq : Que w (bm + 1) hi (.slice (some ⟨g, 0, none⟩) (m + 1) cap) (m + 1) xs ps false) (hx : xs 0 = true) :
    Calls Try.prog 16 #[.pointer (some ⟨bm, 0, none⟩)] w fun e w' => e = .returned (.tuple #[]) ∧ Fin w bm hi g m cap c0 c1 0 xs ps w' := by
  obtain ⟨g', cap', cs, p, c, hv, hcap, hmax, hg, hlen, htake, hlo, hhi, hp, hg0, hnode⟩ := hq.head (by omega)
  simp only [Value.slice.injEq, Option.some.injEq, Addr.mk.injEq] at hv
  obtain ⟨⟨rfl, _⟩, _, rfl⟩ := hv
  obtain ⟨hc1, hc2, cp, buf, s, rr, tm, hc⟩ := hq.opn rfl _ hp
  simp only at hc1 hc2 hc
  rw [hx] at hnode
  have h4 := hb.cell 4 _ rfl
  have hp0 := hnode.cell 0 _ rfl
  have hfree := free_any bm _ _ _ 0 false true w hb
  have hdel := del_walk g m cap cs w hcap hmax hlen hg (mvd_one htake)
  have key : ∀ w1 cs', But g w w1 → Blk w1 g cs' 42 → cs'.length = cap → cs'.take m = mvd cs m →
      w1.cell? ⟨bm, 4, none⟩ = some (.slice (some ⟨g, 0, none⟩) (m + 1) cap) ∧ w1.frozen? ⟨bm, 4, none⟩ = false ∧
      (w1.setCell ⟨bm, 4, none⟩ (.slice (some ⟨g, 0, none⟩) m cap)).cell? ⟨p, 0, none⟩ = some (.bool true) ∧
      Blk (w1.setCell ⟨bm, 4, none⟩ (.slice (some ⟨g, 0, none⟩) m cap)) bm [c0, c1, .int .i64 0, .bool false, .slice (some ⟨g, 0, none⟩) m cap] 41 ∧
      ((w1.setCell ⟨bm, 4, none⟩ (.slice (some ⟨g, 0, none⟩) m cap)).setCell ⟨bm, 3, none⟩ (.bool true)).cell? ⟨p, 1, none⟩ = some (.chan (some c)) ∧
      ((w1.setCell ⟨bm, 4, none⟩ (.slice (some ⟨g, 0, none⟩) m cap)).setCell ⟨bm, 3, none⟩ (.bool true)).heap[c]? = some (.chan cp buf false s rr tm) ∧
      Fin w bm hi g m cap c0 c1 0 xs ps (shutC ((w1.setCell ⟨bm, 4, none⟩ (.slice (some ⟨g, 0, none⟩) m cap)).setCell ⟨bm, 3, none⟩ (.bool true)) c cp buf s rr tm) := by
    intro w1 cs' hbut hg1 hl ht
    have hb1 : Blk w1 bm [c0, c1, .int .i64 0, .bool false, .slice (some ⟨g, 0, none⟩) (m + 1) cap] 41 := by unfold Blk at *; rw [hbut.block _ (by omega)]; exact hb
    have epg : p ≠ g := Blk.ne hnode hg (by decide)
    have epb : p ≠ bm := Blk.ne hnode hb (by decide)
    have hn1 : Blk w1 p [.bool true, .chan (some c)] 45 := by unfold Blk at *; rw [hbut.block _ epg]; exact hnode
    have hn2 : Blk (w1.setCell ⟨bm, 4, none⟩ (.slice (some ⟨g, 0, none⟩) m cap)) p [.bool true, .chan (some c)] 45 := hn1.other _ _ (Ne.symm epb)
    refine ⟨hb1.cell 4 _ rfl, hb1.frozen 4, hn2.cell 0 _ rfl, hb1.set 4 _, (hn2.other _ _ (Ne.symm epb)).cell 1 _ rfl, ?_, fin_step hbm hb hq hg hcap hmax hlo hhi htake hp hc hbut hg1 hl ht⟩
    have ecb : c ≠ bm := Ne.symm (hb.neOpn hc)
    have ecg : c ≠ g := Ne.symm (hg.neOpn hc)
    rw [Below.heap_setCell _ _ _ _ ecb, Below.heap_setCell _ _ _ _ ecb, hbut.block c ecg]
    exact hc
  have HF : Hid (Calls Try.prog 19 #[.pointer (some ⟨bm, 0, none⟩), .bool true] w fun e w' => e = .returned (.bool true) ∧ w' = w) := by unfold Hid; simpa using hfree
  have HD : Hid _ := hdel
  have KEY : Hid _ := key
  clear hb hq hx hcap hmax hg hlen htake hlo hhi hp hnode hc1 hc2 hc hfree hdel key
  go_enter Try.func16, Try.ntmps16
  go_wp2
  go_loopg [2] 1 (fun k _ wr => (k = 1 ∧ wr = w) ∨ (k = 0 ∧ Fin w bm hi g m cap c0 c1 0 xs ps wr))
  case atStart => exact .inl ⟨rfl, rfl⟩
  case round =>
    rcases hrel with ⟨rfl, rfl⟩ | ⟨rfl, hfin⟩
    · go_wp2_with (first
        | (go_at_call 19; refine Calls.mono (Hid.out HF) ?_; rintro e w' ⟨rfl, rfl⟩)
        | (go_at_call 20; refine Calls.mono (Hid.out HD) ?_; rintro e w1 ⟨rfl, hbut, cs', hb', hl', ht'⟩; obtain ⟨k1, k2, k3, k4, k5, k6, k7⟩ := Hid.out KEY w1 cs' hbut hb' hl' ht'; clear hbut hb' hl' ht'))
      refine (hold_true bm c0 c1 _ _ false _ k4).mono ?_
      rintro e w' ⟨rfl, rfl⟩
      have hcl := fun ats ty => run_close_open (P := Try.prog) ats ty k6
      have K7 : Hid _ := k7
      clear k1 k2 k3 k4 k6 k7
      go_wp2_with (simp only [hcl])
      go_roundg 0
      case measure => omega
      case rel => exact .inr ⟨rfl, K7.out⟩
    · by_cases hm : m = 0
      · subst hm
        have h4' := hfin.1.cell 4 _ rfl
        have FIN : Hid _ := hfin
        clear hfin KEY HD HF h4 hg0 hp0
        go_wp2
        go_end0
        exact ⟨rfl, FIN.out⟩
      · obtain ⟨g', cap', cs2, p2, c2, hv, _, _, _, _, _, _, _, _, hg0', hnode'⟩ := hfin.2.1.head (by omega)
        simp only [Value.slice.injEq, Option.some.injEq, Addr.mk.injEq] at hv
        obtain ⟨⟨rfl, _⟩, _, rfl⟩ := hv
        have hf2 := free_any bm _ _ _ 0 true (xs (0 + 1)) wr hfin.1
        have h4' := hfin.1.cell 4 _ rfl
        have hp2 := hnode'.cell 0 _ rfl
        have HF2 : Hid (Calls Try.prog 19 #[.pointer (some ⟨bm, 0, none⟩), .bool (xs (0 + 1))] wr fun e w' => e = .returned (.bool false) ∧ w' = wr) := by unfold Hid; simpa using hf2
        have FIN : Hid _ := hfin
        obtain ⟨y, hy⟩ : ∃ y, xs (0 + 1) = y := ⟨_, rfl⟩
        rw [hy] at HF2 hp2
        clear hfin KEY HD HF h4 hg0 hp0 hf2 hnode' hy
        go_wp2_with (go_at_call 19; refine Calls.mono (Hid.out HF2) ?_; rintro e w' ⟨rfl, rfl⟩)
        go_end0
        exact ⟨rfl, FIN.out⟩
end Go.Proofs.Qxb6616645a
