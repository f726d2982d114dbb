import Derived.Test.Qxb6617666aFrom
namespace Go.Proofs.Qxb6617666a
open Go.RowKit
set_option linter.unusedVariables false
set_option linter.unusedSimpArgs false

theorem info9 : (Try.prog.info? 9).map (fun i => (i.zero, i.size, i.bytes)) = some (some (.string ByteArray.empty), 1, 16) := by kernel_rfl

def strs (l : List ByteArray) : List Value := l.map .string
theorem strs_length (l : List ByteArray) : (strs l).length = l.length := by simp [strs]
theorem strs_one (l : List ByteArray) : ∀ u ∈ strs l, u.oneCell' = true := by
  intro u hu
  obtain ⟨_, _, rfl⟩ := List.mem_map.1 hu
  rfl
theorem strs_get {l : List ByteArray} {i : Nat} {x : ByteArray} (h : l[i]? = some x) : (strs l)[i]? = some (.string x) := by simp [strs, h]

theorem one_cell (W : World) (u : Value) (t : TypeId) : ∀ j x, [u][j]? = some x → (W.alloc (.cells #[u] t)).cell? ((⟨W.heap.size, 0, none⟩ : Addr).add j) = some x := by
  intro j x hj
  match j, hj with
  | 0, hj => simp at hj; subst hj; simp [Addr.add]

theorem Rd.owned {w : World} {base n : Nat} {v : Value} {l : List ByteArray} (h : w.ownsRow base 9 1 v n (strs l)) : ∃ a cap, v = .slice a l.length cap ∧ Rd w a l := by
  have hl := h.1
  rw [strs_length, Nat.mul_one] at hl
  subst hl
  rcases h.2 with ⟨rfl, h0⟩ | ⟨g, cap, cur, rfl, _⟩
  · obtain rfl : l = [] := List.eq_nil_of_length_eq_zero h0
    exact ⟨none, 0, rfl, Rd.nil _ _⟩
  · refine ⟨_, cap, rfl, fun i x hi => ⟨g, 0, rfl, ?_⟩⟩
    have := h.cells rfl i _ (strs_get hi)
    rw [Addr.add_lit] at this
    exact this

set_option maxHeartbeats 400000 in
theorem to_any (u : Option Addr) (l : List ByteArray) (w : World) (hl : Lst w u l) (h1 : l.length ≤ 1099511627776) :
    Calls Try.prog 14 #[.pointer u] w fun e w' => ∃ a cap, e = .returned (.slice a l.length cap) ∧ Rd w' a l ∧ Below w.heap.size w w' := by
  obtain ⟨i0, hi, hz0, hz1, hz2⟩ := info_parts info9
  have H := hide (len_any u l w hl)
  go_enter Try.func14, Try.ntmps14
  go_wp2_with (go_at_call 16; refine Calls.mono (Hid.out H) ?_; rintro e w' ⟨rfl, hw⟩; subst w')
  go_loopw [0, 3, 4] (fun p v i wr => ∃ (k : Nat) (u' : Option Addr), k ≤ l.length ∧ p = .pointer u' ∧ i = .int .i64 ((l.length : Int) - k) ∧ wr.ownsRow w.heap.size 9 1 v k (strs (l.take k)) ∧ Lst w u' (l.drop k) ∧ Below w.heap.size w wr)
    (fun _ _ i _ => (intOf i).toNat)
  case atStart => exact ⟨0, u, Nat.zero_le _, rfl, by simp, World.ownsRow_nil _ _ _ _, hl, Below.refl _ _⟩
  case round =>
    obtain ⟨k, u', hk, rfl, rfl, hown, hlst, hbel⟩ := hrel
    clear H hl
    by_cases hlt : k < l.length
    · obtain ⟨b, o, v', rfl, hc0, hc1, _, hlst', _⟩ := hlst.head (by simp; omega)
      have hx : (l.drop k).getD 0 ByteArray.empty = l.getD k ByteArray.empty := by simp [List.getD]
      rw [hx] at hc0
      have hd : (l.drop k).drop 1 = l.drop (k + 1) := by simp
      rw [hd] at hlst'
      obtain ⟨x, hxx⟩ : ∃ x, l.getD k ByteArray.empty = x := ⟨_, rfl⟩
      rw [hxx] at hc0
      have ht : l.take (k + 1) = l.take k ++ [x] := by
        rw [List.take_succ_eq_append_getElem hlt, ← hxx]
        simp [List.getD, hlt]
      have HT := hide ht
      have hsz := hbel.size
      have hb' := World.block_lt_of_cell? w _ hc1
      have hc0' := (hbel.cell (p := ⟨b, o, none⟩) hb').trans hc0
      have HC1 := hide hc1
      have h0 : (0 : Int) < (l.length : Int) - k := by omega
      have hbel2 := hbel.alloc hsz (.cells #[.string x] 9)
      clear ht hlst hx hd hxx hc0 hc1
      go_wp2_with (at_builtin; refine wpList_append_own _ rfl (.tmp 11) (.tmp 16) 23 rfl w.heap.size 9 i0 (.string ByteArray.empty) 1 16 Try.underlying23 hi hz0 hz1 hz2 rfl (by decide) _ _ _ rfl (hown.alloc _) ⟨wr.heap.size, 0, none⟩ 1 1 [.string x] rfl rfl (one_cell _ _ _) (strs_one [x]) (by unfold maxLen; omega) (by omega) (by simp; omega) ?_; intro v1 w1 hown1 hgrow1 _; have hbel3 := Below.grown hbel2 hgrow1 (by simp; omega) (fun q hq => (hown.lt q hq).1); have hc1' := (hbel3.cell (p := ⟨b, o + 1, none⟩) hb').trans HC1.out; clear hgrow1)
      go_roundw
      case rel => exact ⟨k + 1, v', by omega, rfl, by go_num, by rw [HT.out]; simpa [strs] using hown1, hlst', hbel3⟩
      case measure => simp [intOf]; omega
    · obtain rfl : k = l.length := by omega
      go_wp2
      go_ret
      rw [List.take_of_length_le (Nat.le_refl _)] at hown
      obtain ⟨a, cap, hv, hr⟩ := Rd.owned hown
      subst hv
      exact ⟨a, cap, rfl, hr, hbel⟩
end Go.Proofs.Qxb6617666a
