import Derived.Test.Qxb6616645aLeave2
namespace Go.Proofs.Qxb6616645a
open Go.RowKit
set_option linter.unusedSimpArgs false
set_option linter.unusedVariables false

/-- true, then the tail. -/
def front (B : Nat → Bool) : Nat → Bool
  | 0 => true
  | i + 1 => B i
theorem front_tail (B : Nat → Bool) : (fun i => front B (i + 1)) = B := rfl
theorem bools_front (n : Nat) (B : Nat → Bool) : [.bool true] ++ bools n B = bools (n + 1) (front B) := by
  unfold bools
  rw [List.range_succ_eq_map]
  simp [front, Function.comp_def]

theorem Mx.same {w w' : World} {bm hi n : Nat} {r : Int} {x : Bool} {xs : Nat → Bool} (h : Mx w bm hi r x n xs) (hs : ∀ k, bm ≤ k → k < hi → w'.heap[k]? = w.heap[k]?) (hz : w.heap.size ≤ w'.heap.size) : Mx w' bm hi r x n xs := by
  obtain ⟨h1, h2, v, ps, hb, hq⟩ := h
  exact ⟨h1, by omega, v, ps, by unfold Blk at *; rw [hs _ (Nat.le_refl _) h1]; exact hb, hq.same fun k a b => hs k (by omega) b⟩
theorem Mx.below {w w' : World} {bm hi n B : Nat} {r : Int} {x : Bool} {xs : Nat → Bool} (h : Mx w bm hi r x n xs) (hb : Below B w w') (hB : hi ≤ B) : Mx w' bm hi r x n xs :=
  h.same (fun k _ hk => hb.block k (by omega)) hb.size
theorem Mx.within {w w' : World} {bm hi n lo to : Nat} {r : Int} {x : Bool} {xs : Nat → Bool} (h : Mx w bm hi r x n xs) (hb : Within lo to w w') (hB : hi ≤ lo ∨ to ≤ bm) : Mx w' bm hi r x n xs :=
  h.same (fun k h1 h2 => hb.block k (by omega)) (by rw [hb.size]; exact Nat.le_refl _)
theorem Rd.within {w w' : World} {lo hi n : Nat} {a : Option Addr} {xs : Nat → Bool} (h : Rd w a n xs) (hb : Within lo hi w w') (hB : ∀ b o, a = some ⟨b, o, none⟩ → b < lo) : Rd w' a n xs := by
  intro i hi
  obtain ⟨g, o, e, hc⟩ := h i hi
  exact ⟨g, o, e, (hb.below.cell (p := ⟨g, o + i, none⟩) (hB g o e)).trans hc⟩

theorem tail_src {w W : World} {a : Option Addr} {len cap : Nat} {B : Nat → Bool} (h : IsB w a len cap B) (hb : Below w.heap.size w W) : ∀ ad, a = some ad → ∀ j u, (bools len B)[j]? = some u → W.cell? (ad.add j) = some u := by
  intro ad e j u hu
  have hj : j < len := by have := (List.getElem?_eq_some_iff.1 hu).1; rwa [bools_length] at this
  rw [bools_get hj] at hu
  obtain ⟨b, o, e', hc⟩ := h.at (by omega)
  rw [e] at e'
  obtain rfl := Option.some.inj e'
  rw [Addr.add_lit, hb.cell (p := ⟨b, o + j, none⟩) (World.block_lt_of_cell? w ⟨b, o + j, none⟩ (hc j hj)), hc j hj, hu]
theorem IsB.none_len {w : World} {a : Option Addr} {len cap : Nat} {B : Nat → Bool} (h : IsB w a len cap B) : a = none → len = 0 ∧ cap = 0 := by
  intro e
  rcases h with ⟨_, h1, h2⟩ | ⟨x, h1, _⟩
  · exact ⟨h1, h2⟩
  · rw [e] at h1; cases h1

theorem Rd.owned {w : World} {g base n cap : Nat} {xs : Nat → Bool} (h : w.ownsRow base 4 1 (.slice (some ⟨g, 0, none⟩) n cap) n (bools n xs)) : Rd w (some ⟨g, 0, none⟩) n xs := by
  intro i hi
  refine ⟨g, 0, rfl, ?_⟩
  have := h.cells rfl i _ (bools_get hi)
  rw [Addr.add_lit] at this
  exact this

/-- One RUnlock: the one reader leaves, or one of two or more. -/
theorem run_once {bm hi n : Nat} {r : Int} {xs : Nat → Bool} {w : World} (x : Bool) (n' : Nat) (xs' : Nat → Bool) (h1 : 1 ≤ r) (h2 : r ≤ 9223372036854775807) (hm : Mx w bm hi r false n xs) (hx : xs 0 = true) (hn : 0 < n)
    (hc : (r = 1 ∧ x = true ∧ n = n' + 1 ∧ xs' = fun i => xs (i + 1)) ∨ (r ≠ 1 ∧ x = false ∧ n' = n ∧ xs' = xs)) :
    Calls Try.prog 7 #[.pointer (some ⟨bm, 0, none⟩)] w fun e w' => e = .returned (.tuple #[]) ∧ Within bm hi w w' ∧ Mx w' bm hi (r - 1) x n' xs' := by
  apply zzrun
  rcases hc with ⟨rfl, rfl, rfl, rfl⟩ | ⟨h, rfl, rfl, rfl⟩
  · exact run_last bm hi n' xs w hm hx
  · exact run_stay bm hi n' r xs' w h1 h2 hm (fun _ => hx) (.inr h)

theorem bools_front1 (n : Nat) (B : Nat → Bool) : [.bool true] ++ bools n B = bools (1 + n) (front B) := by rw [bools_front, Nat.add_comm]
theorem Rd.head (w : World) : Rd (w.alloc (.cells #[.bool true] 4)) (some ⟨w.heap.size, 0, none⟩) 1 (fun _ => true) := by
  intro i hi
  obtain rfl : i = 0 := by omega
  exact ⟨_, 0, rfl, by simp⟩
/-- What the two queues are behind the two RUnlocks. -/
theorem pick (r : Int) (len : Nat) (B : Nat → Bool) : ∃ n1 xs1 n2 xs2, ((r = 1 ∧ (r == 1) = true ∧ 1 + len = n1 + 1 ∧ xs1 = fun i => front B (i + 1)) ∨ (r ≠ 1 ∧ (r == 1) = false ∧ n1 = 1 + len ∧ xs1 = front B)) ∧
    ((r = 1 ∧ (r == 1) = true ∧ 1 = n2 + 1 ∧ xs2 = fun i => (fun _ => true) (i + 1)) ∨ (r ≠ 1 ∧ (r == 1) = false ∧ n2 = 1 ∧ xs2 = fun _ => true)) ∧ n1 = n2 + len ∧ bools n2 xs2 ++ bools len B = bools n1 xs1 ∧ n2 ≤ 1 := by
  by_cases hr : r = 1
  · exact ⟨len, B, 0, fun _ => true, .inl ⟨hr, by simp [hr], by omega, rfl⟩, .inl ⟨hr, by simp [hr], rfl, rfl⟩, by omega, by simp [bools], by omega⟩
  · exact ⟨1 + len, front B, 1, fun _ => true, .inr ⟨hr, by simp [hr], rfl, rfl⟩, .inr ⟨hr, by simp [hr], rfl, rfl⟩, rfl, by rw [← bools_front1]; rfl, by omega⟩

theorem Rd.src2 {w : World} {g n : Nat} {xs : Nat → Bool} (h : Rd w (some ⟨g, 0, none⟩) n xs) : ∀ j u, (bools n xs)[j]? = some u → w.cell? ((⟨g, 0, none⟩ : Addr).add j) = some u := by
  intro j u hu
  have hj : j < n := by have := (List.getElem?_eq_some_iff.1 hu).1; rwa [bools_length] at this
  rw [bools_get hj] at hu
  obtain ⟨b, o, e, hc⟩ := h j hj
  simp only [Option.some.injEq, Addr.mk.injEq] at e
  obtain ⟨rfl, rfl, _⟩ := e
  rw [Addr.add_lit, hc, hu]

set_option maxHeartbeats 400000 in
theorem tail_early (r : Int) (a : Option Addr) (len cap : Nat) (B : Nat → Bool) (w : World) (hB : IsB w a len cap B) (h : 65536 < len ∨ r < 1) :
    Calls Try.prog 4 #[.int .i64 r, .slice a len cap] w fun e w' => e = .returned (.bool true) ∧ w' = w := by
  have hle := hB.le
  by_cases h1 : 65536 < len
  · clear h
    have hc := bytes12_any r a len cap w hle
    unfold maxLen at hle
    by_cases h2 : (len : Int) ≤ 1048576
    all_goals
      simp only [h2, decide_true, decide_false] at hc
      have HC := kept hc
      clear hc
      go_enter Try.func4, Try.ntmps4
      go_wp2_with (go_at_call 12; refine Calls.mono (Hid.out HC) ?_; rintro e w' ⟨rfl, rfl⟩)
      go_ret
      exact ⟨rfl, rfl⟩
  have hc := bytes12_any r a len cap w hle
  have h2 : (len : Int) ≤ 1048576 := by omega
  have h1' : ¬ ((65536 : Int) < len) := by omega
  simp only [h2, decide_true] at hc
  have HC := kept hc
  have hr : r < 1 := by omega
  clear hc h2 h1 h
  unfold maxLen at hle
  go_enter Try.func4, Try.ntmps4
  go_wp2_with (go_at_call 12; refine Calls.mono (Hid.out HC) ?_; rintro e w' ⟨rfl, rfl⟩)
  go_ret
  exact ⟨rfl, rfl⟩
end Go.Proofs.Qxb6616645a
