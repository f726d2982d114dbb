import Derived.Test.Qxb6617679aParse
namespace Go.Proofs.Qxb6617679a
open Go.RowKit
set_option linter.unusedVariables false
set_option linter.unusedSimpArgs false

theorem Rd.src {w : World} {a : Option Addr} {l : List Int} (h : Rd w a l) (ob : Obj) (X : Addr) :
    0 < (ints l).length → some X = some X ∧ ∃ ad, a = some ad ∧ ∀ j v, (ints l)[j]? = some v → (w.alloc ob).cell? (ad.add j) = some v := by
  intro hl
  rw [ints_length] at hl
  obtain ⟨b, o, rfl, hcell⟩ := h.one hl
  refine ⟨rfl, _, rfl, fun j v hv => ?_⟩
  have hj : j < l.length := by have := (List.getElem?_eq_some_iff.1 hv).1; rwa [ints_length] at this
  have hx := ints_get (List.getElem?_eq_getElem hj)
  rw [hx] at hv
  have h := hcell j _ (List.getElem?_eq_getElem hj)
  rw [Addr.add_lit, World.cell?_alloc_lt _ _ _ (World.block_lt_of_cell? w _ h), h, hv]
theorem Rd.made {W : World} {l : List Int} {g : Nat} (h : Hid (W.heap[g]? = some (.cells (splice (madeCells #[.int .u8 0] l.length).toList 0 (ints l)).toArray 5 (0, 0)))) : Rd W (some ⟨g, 0, none⟩) l := by
  intro i x hi
  refine ⟨g, 0, rfl, ?_⟩
  have h1 : splice (madeCells #[.int .u8 0] l.length).toList 0 (ints l) = ints l := by
    unfold splice
    rw [List.take_zero, List.nil_append, List.drop_eq_nil_of_le (by simp [ints_length, size_madeCells]), List.append_nil]
  have h2 := h.out
  rw [h1] at h2
  rw [cell_of_row _ _ _ _ _ _ h2, Nat.zero_add]
  simp [ints_get hi]

theorem bytes_any (a : Option Addr) (n cap : Nat) (w : World) (hn : n ≤ 9223372036854775807) :
    Calls Try.prog 4 #[.slice a n cap] w fun e w' => e = .returned (.bool (decide (n ≤ 1048576))) ∧ w' = w := by
  by_cases h : n ≤ 1048576
  · have e1 : ¬ (1048576 : Int) < n := by omega
    go_enter Try.func4, Try.ntmps4
    go_wp2
    go_ret
    exact ⟨by simp [h], rfl⟩
  · have e1 : (1048576 : Int) < n := by omega
    go_enter Try.func4, Try.ntmps4
    go_wp2
    go_ret
    exact ⟨by simp [h], rfl⟩

theorem beq_nil (a1 a2 : Option Addr) (c1 c2 : Nat) (w : World) :
    Calls Try.prog 7 #[.slice a1 0 c1, .slice a2 0 c2] w fun e w' => e = .returned (.bool true) ∧ ∃ k, w' = w.drewN k := by
  go_enter Try.func7, Try.ntmps7
  go_wp2
  go_loopw [5] (fun i wr => i = .int .i64 0 ∧ wr = w) (fun _ _ => 0)
  case atStart => exact ⟨rfl, rfl⟩
  case round =>
    obtain ⟨rfl, rfl⟩ := hrel
    go_wp2
    go_ret
    exact ⟨rfl, 0, rfl⟩

set_option maxHeartbeats 400000 in
theorem beq_same (b1 o1 b2 o2 n c1 c2 : Nat) (l : List Int) (w : World) (hn : n = l.length) (hl : n ≤ 1048576)
    (h1 : ∀ i x, l[i]? = some x → w.cell? ⟨b1, o1 + i, none⟩ = some (.int .u8 x)) (h2 : ∀ i x, l[i]? = some x → w.cell? ⟨b2, o2 + i, none⟩ = some (.int .u8 x)) :
    Calls Try.prog 7 #[.slice (some ⟨b1, o1, none⟩) n c1, .slice (some ⟨b2, o2, none⟩) n c2] w fun e w' => e = .returned (.bool true) ∧ ∃ k, w' = w.drewN k := by
  have HN := hide hn
  clear hn
  go_enter Try.func7, Try.ntmps7
  go_wp2
  go_loopw [5] (fun i wr => ∃ k m : Nat, k ≤ n ∧ i = .int .i64 k ∧ wr = w.drewN m) (fun i _ => n - (intOf i).toNat)
  case atStart => exact ⟨0, 0, Nat.zero_le _, rfl, rfl⟩
  case round =>
    obtain ⟨k, m, hk, rfl, rfl⟩ := hrel
    by_cases hlt : k < n
    · obtain ⟨x, hx⟩ : ∃ x, l[k]? = some x := ⟨_, List.getElem?_eq_getElem (by rw [← HN.out]; exact hlt)⟩
      have g1 := h1 k x hx
      have g2 := h2 k x hx
      clear h1 h2 hx
      go_wp2
      go_quiet (fail)
      go_wp2
      go_roundw
      case rel => exact ⟨k + 1, m + nq, by omega, by go_num, rfl⟩
      case measure => simp [intOf]; omega
    · go_wp2
      go_ret
      exact ⟨rfl, m, rfl⟩

theorem beq_any (a1 a2 : Option Addr) (n c1 c2 : Nat) (l : List Int) (w : World) (hn : n = l.length) (hl : n ≤ 1048576) (h1 : Rd w a1 l) (h2 : Rd w a2 l) :
    Calls Try.prog 7 #[.slice a1 n c1, .slice a2 n c2] w fun e w' => e = .returned (.bool true) ∧ ∃ k, w' = w.drewN k := by
  by_cases h0 : n = 0
  · subst h0
    exact beq_nil a1 a2 c1 c2 w
  · obtain ⟨b1, o1, rfl, g1⟩ := h1.one (by omega)
    obtain ⟨b2, o2, rfl, g2⟩ := h2.one (by omega)
    exact beq_same b1 o1 b2 o2 n c1 c2 l w hn hl g1 g2

theorem parse_any (g N c L : Nat) (C : List Int) (w : World) (hr : Rd w (some ⟨g, 0, none⟩) (2 :: (head L ++ C))) (hN : N = 1 + (head L).length + L) (hc : c = 6 + L) (h1 : 1 ≤ L) (h2 : L ≤ 1048577) :
    Calls Try.prog 6 #[.slice (some ⟨g, 0, none⟩) N c, .int .u8 2] w fun e w' => ∃ o c, e = .returned (.tuple #[.slice (some ⟨g, o, none⟩) L c, .bool true]) ∧ w' = w ∧ L < c ∧ Rd w (some ⟨g, o, none⟩) C := by
  by_cases h : L < 128
  · have e : head L = [(L : Int)] := by unfold head; rw [if_pos h]
    rw [e] at hr hN
    obtain rfl : N = 2 + L := by simp at hN; omega
    subst hc
    refine (parse_short g L C w hr h h1).mono ?_
    rintro e w' ⟨c, rfl, rfl, hlt⟩
    exact ⟨2, c, rfl, rfl, hlt, by have := hr.drop 2; simpa using this⟩
  · obtain ⟨K, hK⟩ : ∃ K, cls L = K := ⟨_, rfl⟩
    have e : head L = (128 + (K : Int)) :: octs L := by unfold head; rw [if_neg h, hK]; simp
    have hlen := octs_length L
    rw [e] at hr hN
    obtain rfl : N = 2 + K + L := by simp at hN; omega
    subst hc
    refine (parse_long g L K C w hr hK (by omega) h2).mono ?_
    rintro e w' ⟨c, rfl, rfl, hlt⟩
    refine ⟨2 + K, c, rfl, rfl, hlt, ?_⟩
    have := hr.drop (2 + K)
    rw [Nat.zero_add] at this
    have e2 : List.drop (2 + K) (2 :: (128 + (K : Int)) :: octs L ++ C) = C := by
      rw [Nat.add_comm]
      simp [← hK, ← hlen]
    simp only [List.cons_append] at this e2
    rwa [e2] at this
end Go.Proofs.Qxb6617679a
