import Derived.Test.Qxb6617679aEnc
namespace Go.Proofs.Qxb6617679a
open Go.RowKit
set_option linter.unusedVariables false
set_option linter.unusedSimpArgs false

/-- The contents octets. -/
def cont : List Int → List Int
  | [] => [0]
  | x :: l => if 128 ≤ x then 0 :: x :: l else x :: l

/-- A slice of bytes that came in (or was copied). -/
structure In (w : World) (a : Option Addr) (cap : Nat) (l : List Int) : Prop where
  rd : Rd w a l
  byt : Byt l
  len : l.length ≤ 1048576
  nil : a = none → l.length = 0 ∧ cap = 0

theorem cont_two {w : World} {a : Option Addr} {cap : Nat} {l : List Int} (h : In w a cap l) :
    Cont ((w.alloc (.cells #[.int .u8 0] 5)).alloc (.cells #[.slice (some ⟨w.heap.size, 0, none⟩) 1 1, .slice a l.length cap] 22)) (w.heap.size + 1) [(some ⟨w.heap.size, 0, none⟩, [0], 1), (a, l, cap)] := by
  have hB : Below w.heap.size w ((w.alloc (.cells #[.int .u8 0] 5)).alloc (.cells #[.slice (some ⟨w.heap.size, 0, none⟩) 1 1, .slice a l.length cap] 22)) := ((Below.refl w.heap.size w).alloc (Nat.le_refl _) _).alloc (by simp) _
  have h1 : ((w.alloc (.cells #[.int .u8 0] 5)).alloc (.cells #[.slice (some ⟨w.heap.size, 0, none⟩) 1 1, .slice a l.length cap] 22)).heap[w.heap.size + 1]? = some (.cells #[.slice (some ⟨w.heap.size, 0, none⟩) 1 1, .slice a l.length cap] 22) := by
    have := heap_alloc_new (w.alloc (.cells #[.int .u8 0] 5)) (.cells #[.slice (some ⟨w.heap.size, 0, none⟩) 1 1, .slice a l.length cap] 22)
    simpa using this
  have h0 : ((w.alloc (.cells #[.int .u8 0] 5)).alloc (.cells #[.slice (some ⟨w.heap.size, 0, none⟩) 1 1, .slice a l.length cap] 22)).heap[w.heap.size]? = some (.cells #[.int .u8 0] 5) := by
    rw [Below.heap_alloc _ _ _ (by simp)]
    exact heap_alloc_new w _
  intro i q hq
  match i, hq with
  | 0, hq =>
    simp at hq
    subst hq
    refine ⟨by rw [cell_of_row _ _ _ _ _ _ h1]; rfl, ?_, fun h => by cases h⟩
    intro i x hi
    match i, hi with
    | 0, hi =>
      simp at hi
      subst hi
      exact ⟨w.heap.size, 0, rfl, by rw [cell_of_row _ _ _ _ _ _ h0]; rfl⟩
  | 1, hq =>
    simp at hq
    subst hq
    exact ⟨by rw [cell_of_row _ _ _ _ _ _ h1]; rfl, h.rd.below hB (Nat.le_refl _), h.nil⟩

theorem cont_one {w : World} {a : Option Addr} {cap : Nat} {l : List Int} (h : In w a cap l) :
    Cont (w.alloc (.cells #[.slice a l.length cap] 22)) w.heap.size [(a, l, cap)] := by
  have hB : Below w.heap.size w (w.alloc (.cells #[.slice a l.length cap] 22)) := (Below.refl w.heap.size w).alloc (Nat.le_refl _) _
  have h1 : (w.alloc (.cells #[.slice a l.length cap] 22)).heap[w.heap.size]? = some (.cells #[.slice a l.length cap] 22) := heap_alloc_new w _
  intro i q hq
  match i, hq with
  | 0, hq =>
    simp at hq
    subst hq
    exact ⟨by rw [cell_of_row _ _ _ _ _ _ h1]; rfl, h.rd.below hB (Nat.le_refl _), h.nil⟩

theorem cat_two (A : Option Addr) (a : Option Addr) (cap : Nat) (l : List Int) : cat [(A, [0], 1), (a, l, cap)] = 0 :: l := by simp [cat]
theorem cat_one (a : Option Addr) (cap : Nat) (l : List Int) : cat [(a, l, cap)] = l := by simp [cat]

theorem encode_at (t : Int) (g0 L n : Nat) (ps : List (Option Addr × List Int × Nat)) (C : List Int) (w : World) (ht : 0 ≤ t ∧ t ≤ 255) (hc : Cont w g0 ps) (hn : ps.length = n) (hC : cat ps = C) (hL : L = C.length) (hl : L ≤ 1048577) (hn' : n ≤ 16) :
    Calls Try.prog 8 #[.int .u8 t, .slice (some ⟨g0, 0, none⟩) n n] w fun e w' => ∃ g N c, e = .returned (.slice (some ⟨g, 0, none⟩) N c) ∧ Hid (N = 1 + (head L).length + L) ∧ Hid (c = 6 + L) ∧ Rd w' (some ⟨g, 0, none⟩) (t :: (head L ++ C)) ∧ Below w.heap.size w w' := by
  subst hn hC
  refine (encode_any t g0 L ps w ht hc hL hl hn').mono ?_
  rintro e w' ⟨c, h1, h2, h3, h4⟩
  exact ⟨_, _, c, h1, rfl, h2, h3, h4⟩

set_option maxHeartbeats 400000 in
theorem eui_any (a : Option Addr) (cap L : Nat) (l : List Int) (w : World) (h : In w a cap l) (hL : L = (cont l).length) :
    Calls Try.prog 5 #[.slice a l.length cap] w fun e w' => ∃ g N c, e = .returned (.slice (some ⟨g, 0, none⟩) N c) ∧ Hid (N = 1 + (head L).length + L) ∧ Hid (c = 6 + L) ∧ Rd w' (some ⟨g, 0, none⟩) (2 :: (head L ++ cont l)) ∧ Below w.heap.size w w' := by
  have hlen := h.len
  by_cases h2 : cont l = 0 :: l
  · have E2 := hide h2
    have hE := encode_at 2 (w.heap.size + 1) L 2 _ (0 :: l) _ (by omega) (cont_two h) rfl (cat_two _ _ _ _) (by rw [← h2, hL]) (by rw [hL, h2]; simp; omega) (by omega)
    have HE := hide hE
    have hB := ((Below.refl w.heap.size w).alloc (Nat.le_refl _) (.cells #[.int .u8 0] 5)).alloc (by simp) (.cells #[.slice (some ⟨w.heap.size, 0, none⟩) 1 1, .slice a l.length cap] 22)
    clear hE hL h2
    by_cases hl : l.length = 0
    · obtain rfl : l = [] := List.eq_nil_of_length_eq_zero hl
      simp only [List.length_nil] at HE hB ⊢
      clear hl hlen
      go_enter Try.func5, Try.ntmps5
      go_wp2_with (go_at_call 8; refine Calls.mono (Hid.out HE) ?_; rintro e w1 ⟨g, N, c, rfl, HN, HCC, hr, hb⟩)
      go_ret
      exact ⟨g, N, c, rfl, HN, HCC, by rw [E2.out]; exact hr, hB.trans (hb.mono (by simp; omega))⟩
    · obtain ⟨b, o, rfl, hc⟩ := h.rd.one (by omega)
      obtain ⟨x, hx⟩ : ∃ x, l[0]? = some x := ⟨_, List.getElem?_eq_getElem (by omega)⟩
      have hxb := h.byt x (List.mem_of_getElem? hx)
      have hc0 := hc 0 x hx
      have h128 : 128 ≤ x := by
        have := E2.out
        cases l with
        | nil => simp at hl
        | cons y m =>
          simp at hx
          subst hx
          by_cases hy : 128 ≤ y
          · exact hy
          · simp [cont, hy] at this
      have hand := and128 x hxb.1 hxb.2
      rw [if_pos h128] at hand
      simp only [Nat.add_zero] at hc0
      have hll : (0 : Int) < l.length := by omega
      have hne : ((l.length : Int) == 0) = false := by simpa using hl
      clear hc hx hl
      go_enter Try.func5, Try.ntmps5
      go_wp2_with (go_at_call 8; refine Calls.mono (Hid.out HE) ?_; rintro e w1 ⟨g, N, c, rfl, HN, HCC, hr, hb⟩)
      go_ret
      exact ⟨g, N, c, rfl, HN, HCC, by rw [E2.out]; exact hr, hB.trans (hb.mono (by simp; omega))⟩
  · have h3 : cont l = l ∧ ∃ x, l[0]? = some x ∧ ¬ 128 ≤ x := by
      cases l with
      | nil => simp [cont] at h2
      | cons y m =>
        by_cases hy : 128 ≤ y
        · simp [cont, hy] at h2
        · exact ⟨by simp [cont, hy], y, by simp, hy⟩
    obtain ⟨h3, x, hx, h128⟩ := h3
    have E2 := hide h3
    have hE := encode_at 2 w.heap.size L 1 _ l _ (by omega) (cont_one h) rfl (cat_one _ _ _) (by rw [hL, h3]) (by rw [hL, h3]; omega) (by omega)
    have HE := hide hE
    have hB := (Below.refl w.heap.size w).alloc (Nat.le_refl _) (.cells #[.slice a l.length cap] 22)
    have hl0 : 0 < l.length := (List.getElem?_eq_some_iff.1 hx).1
    obtain ⟨b, o, rfl, hc⟩ := h.rd.one hl0
    have hxb := h.byt x (List.mem_of_getElem? hx)
    have hc0 := hc 0 x hx
    have hand := and128 x hxb.1 hxb.2
    rw [if_neg h128] at hand
    simp only [Nat.add_zero] at hc0
    have hll : (0 : Int) < l.length := by omega
    have hl : ¬ l.length = 0 := by omega
    have hne : ((l.length : Int) == 0) = false := by simpa using hl
    clear hE hL h2 h3 hc hx hl
    go_enter Try.func5, Try.ntmps5
    go_wp2_with (go_at_call 8; refine Calls.mono (Hid.out HE) ?_; rintro e w1 ⟨g, N, c, rfl, HN, HCC, hr, hb⟩)
    go_ret
    exact ⟨g, N, c, rfl, HN, HCC, by rw [E2.out]; exact hr, hB.trans (hb.mono (by simp))⟩
end Go.Proofs.Qxb6617679a
