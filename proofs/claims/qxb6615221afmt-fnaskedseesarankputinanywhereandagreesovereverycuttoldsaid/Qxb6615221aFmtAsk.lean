import Derived.Test.Qxb6615221aFmtNewp
namespace Go.Proofs.Qxb6615221aFmt
open Go.RowKit
set_option linter.unusedVariables false
set_option linter.unusedSimpArgs false

/-- The rescues' cells. -/
def resc (l : List Int) : List Value := l.flatMap fun t => [.int .i64 t, .int .i64 2, .bool false, .bool false]
theorem resc_nil : resc [] = [] := rfl
theorem resc_cons (t : Int) (l : List Int) : resc (t :: l) = .int .i64 t :: .int .i64 2 :: .bool false :: .bool false :: resc l := rfl
theorem resc_append (l m : List Int) : resc (l ++ m) = resc l ++ resc m := by simp [resc]
theorem resc_get {l : List Int} {j : Nat} {t : Int} (h : l[j]? = some t) : (resc l)[j * 4]? = some (.int .i64 t) ∧ (resc l)[j * 4 + 1]? = some (.int .i64 2) ∧ (resc l)[j * 4 + 2]? = some (.bool false) ∧ (resc l)[j * 4 + 3]? = some (.bool false) := by
  induction l generalizing j with
  | nil => simp at h
  | cons x l ih =>
    rw [resc_cons]
    cases j with
    | zero =>
      simp at h
      subst h
      simp
    | succ j =>
      have e : (j + 1) * 4 = j * 4 + 4 := by omega
      have := ih (j := j) (by simpa using h)
      rw [e]
      simpa [show j * 4 + 4 + 1 = j * 4 + 1 + 4 by omega, show j * 4 + 4 + 2 = j * 4 + 2 + 4 by omega, show j * 4 + 4 + 3 = j * 4 + 3 + 4 by omega] using this

/-- A participant in memory whose rescues went to l. -/
structure Par (w : World) (p : Nat) (l : List Int) : Prop where
  ex : ∃ cs v B, Blk w p cs 38 ∧ cs[18]? = some v ∧ w.ownsRow B 40 4 v l.length (resc l)
theorem Par.below {w w' : World} {p : Nat} {l : List Int} (h : Par w p l) (hb : Below w.heap.size w w') : Par w' p l := by
  obtain ⟨cs, v, B, h1, h2, h3⟩ := h.ex
  refine ⟨cs, v, B, h1.below hb, h2, h3.1, ?_⟩
  rcases h3.2 with h | ⟨g, cap, cur, hv, hg, hh, rest⟩
  · exact .inl h
  · exact .inr ⟨g, cap, cur, hv, hg, by rw [hb.block g (Array.getElem?_eq_some_iff.1 hh).1]; exact hh, rest⟩

set_option maxRecDepth 100000 in
set_option maxHeartbeats 1000000 in
theorem asked_any (p : Nat) (r : Int) (l : List Int) (w : World) (h : Par w p l) (hl : l.length ≤ 1048576) :
    Calls Tryf.prog 9 #[.pointer (some ⟨p, 0, none⟩), .int .i64 r] w fun e w' => e = .returned (.bool (decide (r ∈ l))) ∧ Below w.heap.size w w' := by
  obtain ⟨cs, v, B, h1, h2, h3⟩ := h.ex
  have c18 := h1.cell 18 v h2
  have hcells : ∀ j t, l[j]? = some t → ∃ g cap, v = .slice (some ⟨g, 0, none⟩) l.length cap ∧ g < w.heap.size ∧ w.cell? ⟨g, j * 4, none⟩ = some (.int .i64 t) ∧ w.cell? ⟨g, j * 4 + 1, none⟩ = some (.int .i64 2) ∧ w.cell? ⟨g, j * 4 + 2, none⟩ = some (.bool false) ∧ w.cell? ⟨g, j * 4 + 3, none⟩ = some (.bool false) := by
    intro j t hj
    have hlt : j < l.length := (List.getElem?_eq_some_iff.1 hj).1
    obtain ⟨g, cap, rfl, _, hg⟩ := h3.form (by omega)
    obtain ⟨a1, a2, a3, a4⟩ := resc_get hj
    have f := fun i u hu => h3.cells (g := g) rfl i u hu
    simp only [Addr.add_lit, Nat.zero_add] at f
    exact ⟨g, cap, rfl, hg, f _ _ a1, f _ _ a2, f _ _ a3, f _ _ a4⟩
  obtain ⟨av, cv, rfl⟩ : ∃ a c, v = .slice a l.length c := by
    rcases h3.2 with ⟨h, h0⟩ | ⟨g, cap, cur, h, _⟩
    · exact ⟨none, 0, by rw [h, h0]⟩
    · exact ⟨_, _, h⟩
  obtain ⟨n, hn⟩ : ∃ n, l.length = n := ⟨_, rfl⟩
  rw [hn] at c18 hcells hl
  have HN := hide hn
  have HC := hide hcells
  clear hn hcells h1 h2 h3 h
  go_enter Tryf.func9, Tryf.ntmps9
  go_wp2
  go_loopw [6, 12] (fun _ i wr => ∃ k : Nat, k ≤ n ∧ i = .int .i64 k ∧ Hid (¬ r ∈ l.take k) ∧ Below w.heap.size w wr) (fun _ i _ => n - (intOf i).toNat)
  case atStart => exact ⟨0, Nat.zero_le _, rfl, hide (by simp), Below.refl _ _⟩
  case round =>
    obtain ⟨k, hk, rfl, hno, hbel⟩ := hrel
    by_cases hkn : k < n
    · obtain ⟨t, ht⟩ : ∃ t, l[k]? = some t := ⟨_, List.getElem?_eq_getElem (by rw [HN.out]; exact hkn)⟩
      obtain ⟨g, cap, hv, hg, a1, a2, a3, a4⟩ := HC.out k t ht
      obtain ⟨rfl, rfl⟩ : av = some ⟨g, 0, none⟩ ∧ cv = cap := by simpa using hv
      have b1 := (hbel.cell (p := ⟨g, k * 4, none⟩) hg).trans a1
      have b2 := (hbel.cell (p := ⟨g, k * 4 + 1, none⟩) hg).trans a2
      have b3 := (hbel.cell (p := ⟨g, k * 4 + 2, none⟩) hg).trans a3
      have b4 := (hbel.cell (p := ⟨g, k * 4 + 3, none⟩) hg).trans a4
      have HT := hide ht
      clear ht a1 a2 a3 a4 hv
      by_cases htr : t = r
      · subst htr
        go_wp2
        go_ret
        refine ⟨?_, ?_⟩
        · rw [decide_eq_true (List.mem_of_getElem? HT.out)]
          rfl
        · have hs := hbel.size
          first
          | exact hbel.alloc hs _
          | exact (hbel.alloc hs _).setCell hs _
          | exact ((((hbel.alloc hs _).setCell hs _).setCell hs _).setCell hs _).setCell hs _
      · have htr' : (t == r) = false := by simpa using htr
        have HT2 : Hid (¬ r ∈ l.take (k + 1)) := by
          have e : l.take (k + 1) = l.take k ++ [t] := by
            rw [List.take_add_one, HT.out]
            rfl
          refine hide ?_
          rw [e]
          simp only [List.mem_append, List.mem_singleton, not_or]
          exact ⟨hno.out, fun h => htr h.symm⟩
        go_wp2
        go_roundw
        case rel =>
          have hs := hbel.size
          refine ⟨k + 1, by omega, by go_num, HT2, ?_⟩
          first
          | exact hbel.alloc hs _
          | exact (hbel.alloc hs _).setCell hs _
          | exact ((((hbel.alloc hs _).setCell hs _).setCell hs _).setCell hs _).setCell hs _
        case measure => simp [intOf]; omega
    · go_wp2
      go_ret
      refine ⟨?_, hbel⟩
      have h1 : l.take k = l := List.take_of_length_le (by rw [HN.out]; omega)
      rw [decide_eq_false (by rw [← h1]; exact hno.out)]
      rfl

theorem zzasked_any (p : Nat) (r : Int) (l : List Int) (w : World) (h : Par w p l) (hl : l.length ≤ 1048576) :
    Calls Tryf.prog 7 #[.pointer (some ⟨p, 0, none⟩), .int .i64 r] w fun e w' => e = .returned (.bool (decide (r ∈ l))) ∧ Below w.heap.size w w' := by
  have H := hide (asked_any p r l w h hl)
  clear h hl
  go_enter Tryf.func7, Tryf.ntmps7
  go_wp2_with (go_at_call 9; refine Calls.mono (Hid.out H) ?_; rintro e w' ⟨rfl, hb⟩)
  go_ret
  exact ⟨rfl, hb⟩
end Go.Proofs.Qxb6615221aFmt
