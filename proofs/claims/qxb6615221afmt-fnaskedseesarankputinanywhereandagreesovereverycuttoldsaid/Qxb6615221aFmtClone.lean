import Derived.Test.Qxb6615221aFmtWith
namespace Go.Proofs.Qxb6615221aFmt
open Go.RowKit
set_option linter.unusedVariables false
set_option linter.unusedSimpArgs false

theorem clone_nil (w : World) : Calls Tryf.prog 6 #[.slice none 0 0] w fun e w' => e = .returned (.slice none 0 0) ∧ w' = w := by
  have q22 : ∀ (w : World) (a : Option Addr) (n c n' c' : Nat), (binOp .eql 22 (.slice a n c) (.slice none n' c')).run Tryf.prog w = .ok (.bool a.isNone) w := fun w a n c n' c' => Lib.run_eql_slice_nil w _ _ a n c n' c' Tryf.underlying22
  go_enter Tryf.func6, Tryf.ntmps6
  go_wp2
  go_ret
  exact ⟨rfl, rfl⟩

set_option maxHeartbeats 1000000 in
theorem clone_some (n cap : Nat) (ad : Addr) (l : List Int) (w : World) (hr : Rd w (some ad) l) (hn : n = l.length) (hl : n ≤ 1048576) :
    Calls Tryf.prog 6 #[.slice (some ad) n cap] w fun e w' => e = .returned (.slice (some ⟨w.heap.size, 0, none⟩) n n) ∧ Rd w' (some ⟨w.heap.size, 0, none⟩) l ∧ Below w.heap.size w w' := by
  have HN := hide hn
  have q22 : ∀ (w : World) (a : Option Addr) (n c n' c' : Nat), (binOp .eql 22 (.slice a n c) (.slice none n' c')).run Tryf.prog w = .ok (.bool a.isNone) w := fun w a n c n' c' => Lib.run_eql_slice_nil w _ _ a n c n' c' Tryf.underlying22
  clear hn
  have hmk := run_make_row' (P := Tryf.prog) 22 3 (.int .i64 0) 8 Tryf.underlying22 info3 rfl .i64 .i64 n (by omega) (by omega)
  go_enter Tryf.func6, Tryf.ntmps6
  go_wp2
  go_loopw [4] (fun i wr => ∃ (k : Nat) (cs : List Value), k ≤ n ∧ i = .int .i64 k ∧ cs.length = n ∧ Blk wr w.heap.size cs 3 ∧ Hid (cs.take k = ints (l.take k)) ∧ Below w.heap.size w wr) (fun i _ => n - (intOf i).toNat)
  case atStart => exact ⟨0, _, Nat.zero_le _, rfl, by simp [size_madeCells], Blk.made w (.int .i64 0) n 3, hide (by simp [ints]), (Below.refl _ _).alloc (Nat.le_refl _) _⟩
  case round =>
    obtain ⟨k, cs, hk, rfl, hlen, hb, hcs, hbel⟩ := hrel
    by_cases hkn : k < n
    · obtain ⟨t, ht⟩ : ∃ t, l[k]? = some t := ⟨_, List.getElem?_eq_getElem (by rw [← HN.out]; exact hkn)⟩
      obtain ⟨b, o, e, hc⟩ := hr k t ht
      obtain rfl := Option.some.inj e
      have hc' := (hbel.cell (p := ⟨b, o + k, none⟩) (World.block_lt_of_cell? w ⟨b, o + k, none⟩ hc)).trans hc
      have c1 := hb.cell k _ (List.getElem?_eq_getElem (by omega))
      have f1 := hb.frozen k
      have HT : Hid ((cs.set k (.int .i64 t)).take (k + 1) = ints (l.take (k + 1))) := hide (by
        rw [List.take_add_one, List.take_set, List.set_eq_of_length_le (by simp; omega), hcs.out, List.getElem?_set_self (by omega), List.take_add_one, ht]
        simp [ints])
      clear hc e ht
      go_wp2
      go_roundw
      case rel => exact ⟨k + 1, _, by omega, by go_num, by simp [hlen], hb.set k _, HT, hbel.setCell (Nat.le_refl _) _⟩
      case measure => simp [intOf]; omega
    · go_wp2
      go_ret
      refine ⟨rfl, ?_, hbel⟩
      intro i x hi
      refine ⟨_, _, rfl, ?_⟩
      rw [Nat.zero_add]
      refine hb.cell i _ ?_
      have h1 : cs.take k = cs := List.take_of_length_le (by omega)
      have h2 : l.take k = l := List.take_of_length_le (by rw [← HN.out]; omega)
      have := hcs.out
      rw [h1, h2] at this
      rw [this]
      exact ints_get hi
end Go.Proofs.Qxb6615221aFmt
