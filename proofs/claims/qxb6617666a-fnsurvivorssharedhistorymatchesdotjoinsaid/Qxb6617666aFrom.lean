import Derived.Test.Qxb6617666aSmall
import Derived.Deep.RegionHeld
namespace Go.Proofs.Qxb6617666a
open Go.RowKit
set_option linter.unusedVariables false
set_option linter.unusedSimpArgs false

theorem Lst.drewN {w : World} {u : Option Addr} {l : List ByteArray} (h : Lst w u l) (n : Nat) : Lst (w.drewN n) u l := Lst.below (below_drewN (Below.refl w.heap.size w) n) (Nat.le_refl _) l u h
theorem Lst.drew {w : World} {u : Option Addr} {l : List ByteArray} (h : Lst w u l) : Lst w.drew u l := Lst.below ((Below.refl w.heap.size w).drew) (Nat.le_refl _) l u h

/-- A node made at the heap's end, in the walk's spelling. -/
theorem Lst.consd {w : World} {u : Option Addr} {l : List ByteArray} (h : Lst w u l) (x : ByteArray) : Lst (w.alloc (.cells #[.string x, .pointer u, .int .i64 ((l.length : Int) + 1)] 43)).drew (some ⟨w.heap.size, 0, none⟩) (x :: l) :=
  (h.cons x).drew

set_option maxHeartbeats 400000 in
theorem from_any (a u : Option Addr) (cap : Nat) (xs l : List ByteArray) (w : World) (hr : Rd w a xs) (hl : Lst w u l) (h1 : xs.length ≤ 1099511627776) (h2 : l.length ≤ 1099511627776) :
    Calls Try.prog 12 #[.slice a xs.length cap, .pointer u] w fun e w' => ∃ u', e = .returned (.pointer u') ∧ Lst w' u' (xs ++ l) ∧ Below w.heap.size w w' := by
  go_enter Try.func12, Try.ntmps12
  go_wp2
  go_loopw [5, 6] (fun p i wr => ∃ (k : Nat) (u' : Option Addr), k ≤ xs.length ∧ p = .pointer u' ∧ i = .int .i64 ((k : Int) - 1) ∧ Lst wr u' (xs.drop k ++ l) ∧ Below w.heap.size w wr)
    (fun _ i _ => (intOf i + 1).toNat)
  case atStart => exact ⟨xs.length, u, Nat.le_refl _, rfl, rfl, by simpa using hl, Below.refl _ _⟩
  case round =>
    obtain ⟨k, u', hk, rfl, rfl, hlst, hbel⟩ := hrel
    cases k with
    | zero =>
      go_wp2
      go_ret
      exact ⟨u', rfl, by simpa using hlst, hbel⟩
    | succ j =>
      rw [show ((j + 1 : Nat) : Int) - 1 = (j : Int) by omega]
      obtain ⟨b, o, rfl, hc⟩ := hr.at (i := j) (by omega)
      have hc' := (hbel.cell (p := ⟨b, o + j, none⟩) (World.block_lt_of_cell? w _ hc)).trans hc
      have hlen : (xs.drop (j + 1) ++ l).length ≤ 2199023255552 := by simp; omega
      have H := hide (len_any u' _ _ hlst.drew)
      have hd : xs.drop j = xs.getD j ByteArray.empty :: xs.drop (j + 1) := by
        rw [List.drop_eq_getElem_cons (by omega)]
        simp [List.getD, show j < xs.length by omega]
      have HD := hide hd
      have HL := hide (hlst.consd (xs.getD j ByteArray.empty))
      obtain ⟨x, hx⟩ : ∃ x, xs.getD j ByteArray.empty = x := ⟨_, rfl⟩
      obtain ⟨L, hL⟩ : ∃ L, xs.drop (j + 1) ++ l = L := ⟨_, rfl⟩
      rw [hx] at HD HL hc'
      rw [hL] at HL H hlen
      have hsz := hbel.size
      clear hc hlst hr hl hd hx
      have HLL := hide hL
      clear hL
      go_wp2
      go_region_held (fun w' => w'.cell? ⟨b, o + j, none⟩ = some (.string x)) (go_keep) (first | (go_at_call 16; refine Calls.mono (Hid.out H) ?_; rintro e w' ⟨rfl, hw⟩; subst w'))
      all_goals go_wp2
      all_goals
        go_roundw
        case rel => exact ⟨j, _, by omega, rfl, rfl, by rw [HD.out, List.cons_append, HLL.out]; exact HL.out, (hbel.alloc hsz _).drew⟩
        case measure => simp [intOf]
end Go.Proofs.Qxb6617666a
