import Derived.Test.Qxb6615221aFmtAsk
namespace Go.Proofs.Qxb6615221aFmt
open Go.RowKit
set_option linter.unusedVariables false
set_option linter.unusedSimpArgs false

theorem own_ne {w : World} {B n : Nat} {v : Value} {xs cs : List Value} {p : Nat} (own : w.ownsRow B 40 4 v n xs) (hb : Blk w p cs 38) : some p ≠ v.ownBlock := by
  intro e
  rcases own.2 with ⟨rfl, _⟩ | ⟨g, cap, cur, rfl, hg, hh, rest⟩
  · simp [Value.ownBlock] at e
  · simp [Value.ownBlock] at e
    subst e
    unfold Blk at hb
    rw [hb] at hh
    simp at hh
theorem push_blk {w w1 : World} {o : Obj} {B n : Nat} {v : Value} {xs cs : List Value} {p : Nat} (hgrow : (w.alloc o).grownBy w1 v.ownBlock) (own : w.ownsRow B 40 4 v n xs) (hb : Blk w p cs 38) : Blk w1 p cs 38 := by
  have hlt := hb.lt
  have ne := own_ne own hb
  unfold Blk at *
  rw [hgrow.block p (by simp; omega) ne]
  show (w.alloc o).heap[p]? = _
  rw [Below.heap_alloc _ _ _ hlt]
  exact hb
theorem own_set {w : World} {B n : Nat} {v u : Value} {xs cs : List Value} {p i : Nat} (own : w.ownsRow B 40 4 v n xs) (hb : Blk w p cs 38) : (w.setCell ⟨p, i, none⟩ u).ownsRow B 40 4 v n xs := by
  have ne := own_ne own hb
  refine ⟨own.1, ?_⟩
  rcases own.2 with h | ⟨g, cap, cur, rfl, hg, hh, rest⟩
  · exact .inl h
  · exact .inr ⟨g, cap, cur, rfl, hg, by rw [Below.heap_setCell _ _ _ _ (by simp [Value.ownBlock] at ne; exact fun e => ne e.symm)]; exact hh, rest⟩
theorem with_step {w0 w w1 : World} {o : Obj} {p k g cap : Nat} {v : Value} {cs xs ys : List Value} (hp : w0.heap.size ≤ p) (hb : Blk w p cs 38) (own : w.ownsRow w0.heap.size 40 4 v k xs) (hbel : Below w0.heap.size w0 w)
    (hown : w1.ownsRow w0.heap.size 40 4 (.slice (some ⟨g, 0, none⟩) (k + 1) cap) (k + 1) ys) (hgrow : (w.alloc o).grownBy w1 v.ownBlock) :
    Blk (w1.setCell ⟨p, 18, none⟩ (.slice (some ⟨g, 0, none⟩) (k + 1) cap)) p (cs.set 18 (.slice (some ⟨g, 0, none⟩) (k + 1) cap)) 38 ∧
    (w1.setCell ⟨p, 18, none⟩ (.slice (some ⟨g, 0, none⟩) (k + 1) cap)).ownsRow w0.heap.size 40 4 (.slice (some ⟨g, 0, none⟩) (k + 1) cap) (k + 1) ys ∧
    Below w0.heap.size w0 (w1.setCell ⟨p, 18, none⟩ (.slice (some ⟨g, 0, none⟩) (k + 1) cap)) := by
  have hb1 := push_blk hgrow own hb
  refine ⟨hb1.set 18 _, own_set hown hb1, ?_⟩
  refine Below.setCell (Below.grown (hbel.alloc hbel.size _) hgrow (by simp; have := hbel.size; omega) ?_) hp _
  intro q hq
  exact (own.lt q hq).1
theorem news4 (w : World) (t : Int) : ∀ j x, [Value.int .i64 t, .int .i64 2, .bool false, .bool false][j]? = some x → (w.alloc (.cells #[.int .i64 t, .int .i64 2, .bool false, .bool false] 40)).cell? ((⟨w.heap.size, 0, none⟩ : Addr).add j) = some x := by
  have h1 : (w.alloc (.cells #[.int .i64 t, .int .i64 2, .bool false, .bool false] 40)).heap[w.heap.size]? = some (.cells #[.int .i64 t, .int .i64 2, .bool false, .bool false] 40) := heap_alloc_new w _
  exact fun j x hx => World.news_of_block h1 j x hx

set_option maxRecDepth 100000 in
set_option maxHeartbeats 1000000 in
theorem with_any (rank d : Int) (n m c : Nat) (a : Option Addr) (l : List Int) (w : World) (h : Dom rank n d) (hr : Rd w a l) (hm : m = l.length) (hl : m ≤ 1048576) :
    Calls Tryf.prog 8 #[.int .i64 rank, .int .i64 n, .int .i64 d, .slice a m c] w fun e w' => ∃ p, e = .returned (.pointer (some ⟨p, 0, none⟩)) ∧ Par w' p l ∧ Below w.heap.size w w' := by
  obtain ⟨i0, hi, hz0, hz1, hz2⟩ := info_parts info40
  have H := hide (new_any rank d n w h)
  have HM := hide hm
  clear h hm
  go_enter Tryf.func8, Tryf.ntmps8
  go_wp2_with (go_at_call 10; refine Calls.mono (Hid.out H) ?_; rintro e w1 ⟨p, cs, rfl, hp, hb, h18, hbel⟩)
  go_loopw [11, 18] (fun _ i wr => ∃ (k : Nat) (cs : List Value) (v : Value), k ≤ m ∧ i = .int .i64 k ∧ Blk wr p cs 38 ∧ cs[18]? = some v ∧ wr.ownsRow w.heap.size 40 4 v k (resc (l.take k)) ∧ Below w.heap.size w wr) (fun _ i _ => m - (intOf i).toNat)
  case atStart => exact ⟨0, cs, _, Nat.zero_le _, rfl, hb, h18, by rw [List.take_zero]; exact World.ownsRow_nil _ _ _ _, hbel⟩
  case round =>
    clear hb h18 hbel cs
    obtain ⟨k, cs, v, hk, rfl, hb, h18, hown, hbel⟩ := hrel
    by_cases hkm : k < m
    · obtain ⟨t, ht⟩ : ∃ t, l[k]? = some t := ⟨_, List.getElem?_eq_getElem (by rw [← HM.out]; exact hkm)⟩
      obtain ⟨b, o, rfl, hc⟩ := hr k t ht
      have hc' := (hbel.cell (p := ⟨b, o + k, none⟩) (World.block_lt_of_cell? w ⟨b, o + k, none⟩ hc)).trans hc
      have ht1 : l.take (k + 1) = l.take k ++ [t] := by rw [List.take_add_one, ht]; rfl
      have HT : Hid (resc (l.take (k + 1)) = resc (l.take k) ++ [.int .i64 t, .int .i64 2, .bool false, .bool false]) := hide (by rw [ht1, resc_append]; rfl)
      have c18 := hb.cell 18 v h18
      have f18 := hb.frozen 18
      have c18a : ∀ o, (wr.alloc o).cell? ⟨p, 18, none⟩ = some v := fun o => by rw [World.cell?_alloc_lt _ _ _ hb.lt]; exact c18
      have hlen : 18 < cs.length := (List.getElem?_eq_some_iff.1 h18).1
      have hsz := hbel.size
      clear hc ht ht1
      go_wp2_with (at_builtin; refine wpList_append_lies _ rfl (.tmp 26) (.tmp 29) 31 rfl w.heap.size 40 i0 (.agg #[.int .i64 0, .int .i64 0, .bool false, .bool false]) 4 24 Tryf.underlying31 hi hz0 hz1 hz2 rfl (by decide) v k (resc (l.take k)) rfl (hown.alloc _) ⟨wr.heap.size, 0, none⟩ 1 1 [.int .i64 t, .int .i64 2, .bool false, .bool false] rfl rfl (news4 _ _) (by simp [Value.oneCell']) (by decide) (by unfold maxLen; omega) (by omega) (by simp; omega) _ rfl ?_; intro g cap w2 hown2 hgrow hat hlt; have hc18 := (push_blk hgrow hown hb).cell 18 v h18; have hf18 := (push_blk hgrow hown hb).frozen 18)
      all_goals
        have R := with_step hp hb hown hbel hown2 hgrow
        clear hc18 hf18 hown2 hgrow hat hlt c18 f18 c18a hb hown hbel
        go_wp2
        go_roundw
        case rel => exact ⟨k + 1, _, _, by omega, by go_num, R.1, List.getElem?_set_self hlen, by rw [HT.out]; exact R.2.1, R.2.2⟩
        case measure => simp [intOf]; omega
    · go_wp2
      go_ret
      have e1 : l.take k = l := List.take_of_length_le (by rw [← HM.out]; omega)
      have e2 : k = l.length := by rw [← HM.out]; omega
      rw [e1, e2] at hown
      exact ⟨p, rfl, ⟨cs, v, _, hb, h18, hown⟩, hbel⟩
end Go.Proofs.Qxb6615221aFmt
