import Derived.Test.Qxb6616645aMx
import Derived.Deep.RegionLaw
import Derived.Lib.SliceRun
namespace Go.Proofs.Qxb6616645a
open Go.RowKit

theorem zero42 (w : World) : (zeroValue 42).run Try.prog w = .ok (.pointer none) w := by kernel_rfl

def lset : List Value → Nat → List Value → List Value
  | cs, _, [] => cs
  | cs, o, v :: vs => lset (cs.set o v) (o + 1) vs
theorem lset_length (vs : List Value) : ∀ (cs : List Value) (o : Nat), (lset cs o vs).length = cs.length := by
  induction vs with
  | nil => intro cs o; rfl
  | cons v vs ih => intro cs o; simp [lset, ih]
theorem lset_below (vs : List Value) : ∀ (cs : List Value) (o i : Nat), i < o → (lset cs o vs)[i]? = cs[i]? := by
  induction vs with
  | nil => intro cs o i _; rfl
  | cons v vs ih => intro cs o i h; rw [lset, ih _ _ _ (by omega), List.getElem?_set_ne (by omega)]
theorem lset_at (vs : List Value) : ∀ (cs : List Value) (o i : Nat), o + vs.length ≤ cs.length → i < vs.length → (lset cs o vs)[o + i]? = vs[i]? := by
  induction vs with
  | nil => intro cs o i _ h; simp at h
  | cons v vs ih =>
    intro cs o i hl hi
    simp at hl hi
    rw [lset]
    match i with
    | 0 =>
      show (lset (cs.set o v) (o + 1) vs)[o]? = some v
      rw [lset_below _ _ _ _ (by omega), List.getElem?_set_self (by omega)]
    | i + 1 =>
      rw [show o + (i + 1) = o + 1 + i by omega, ih _ _ _ (by simp; omega) (by omega)]
      simp

theorem Blk.setCells {g : Nat} {t : TypeId} (vs : List Value) : ∀ {w : World} {cs : List Value} (o : Nat), Blk w g cs t → Blk (w.setCells g o vs) g (lset cs o vs) t := by
  induction vs with
  | nil => intro w cs o h; exact h
  | cons v vs ih => intro w cs o h; exact ih _ (h.set o v)
theorem setCells_kept {g : Nat} (vs : List Value) : ∀ (w : World) (o : Nat), (w.setCells g o vs).os = w.os ∧ (w.setCells g o vs).tape = w.tape ∧ (w.setCells g o vs).output = w.output ∧ (w.setCells g o vs).heap.size = w.heap.size ∧
    ∀ k, k ≠ g → (w.setCells g o vs).heap[k]? = w.heap[k]? := by
  induction vs with
  | nil => intro w o; exact ⟨rfl, rfl, rfl, rfl, fun _ _ => rfl⟩
  | cons v vs ih =>
    intro w o
    obtain ⟨h1, h2, h3, h4, h5⟩ := ih (w.setCell ⟨g, o, none⟩ v) (o + 1)
    refine ⟨h1, h2, h3, ?_, fun k hk => ?_⟩
    · rw [World.setCells, h4]; simp [World.setCell]
    · rw [World.setCells, h5 k hk, Below.heap_setCell _ _ _ _ hk]

/-- w' is w but for block g, draws aside. -/
structure But (g : Nat) (w w' : World) : Prop where
  os : w'.os = w.os
  tape : w'.tape = w.tape
  output : w'.output = w.output
  size : w'.heap.size = w.heap.size
  block : ∀ k, k ≠ g → w'.heap[k]? = w.heap[k]?

/-- The cells behind the head. -/
def mvd (cs : List Value) (m : Nat) : List Value := (cs.drop 1).take m
theorem mvd_length {cs : List Value} {m : Nat} (h : m + 1 ≤ cs.length) : (mvd cs m).length = m := by simp [mvd]; omega
theorem mvd_get {cs : List Value} {m j : Nat} (hj : j < m) : (mvd cs m)[j]? = cs[1 + j]? := by simp [mvd, hj, Nat.add_comm]

theorem lset_take (cs vs us : List Value) {m : Nat} (hm : vs.length = m) (hl : vs.length ≤ cs.length) : (lset (lset cs 0 vs) m us).take m = vs := by
  subst hm
  apply List.ext_getElem?
  intro i
  by_cases hi : i < vs.length
  · rw [List.getElem?_take_of_lt hi, lset_below _ _ _ _ hi]
    have := lset_at vs cs 0 i (by omega) hi
    simpa using this
  · rw [List.getElem?_take_eq_none (by omega), List.getElem?_eq_none (by omega)]

theorem del_but (g o1 o2 : Nat) (us vs : List Value) {w : World} : But g w ((w.drew.setCells g o1 us).setCells g o2 vs) := by
  obtain ⟨a1, a2, a3, a4, a5⟩ := setCells_kept (g := g) us w.drew o1
  obtain ⟨b1, b2, b3, b4, b5⟩ := setCells_kept (g := g) vs (w.drew.setCells g o1 us) o2
  exact ⟨b1.trans a1, b2.trans a2, b3.trans a3, b4.trans a4, fun k hk => (b5 k hk).trans (a5 k hk)⟩

set_option linter.unusedSimpArgs false
set_option linter.unusedVariables false
set_option maxHeartbeats 1600000 in
set_option maxRecDepth 1000000 in
theorem del_walk (g m cap : Nat) (cs : List Value) (w : World) (hm : m + 1 ≤ cap) (hcap : cap ≤ maxLen) (hlen : cs.length = cap) (hb : Blk w g cs 42) (h1c : ∀ u ∈ mvd cs m, u.oneCell' = true) :
    Calls Try.prog 20 #[.slice (some ⟨g, 0, none⟩) (m + 1) cap, .int .i64 0, .int .i64 1] w fun e w' => e = .returned (.slice (some ⟨g, 0, none⟩) m cap) ∧
      But g w w' ∧ ∃ cs', Blk w' g cs' 42 ∧ cs'.length = cap ∧ cs'.take m = mvd cs m := by
  obtain ⟨i0, hi0, hz0, hz1, hz2⟩ := info_parts info42
  unfold maxLen at hcap
  obtain ⟨A, hA, hnews⟩ : ∃ A : Addr, (if cap = 1 then some (⟨g, 0, none⟩ : Addr) else some ⟨g, 1, none⟩) = some A ∧ Hid (∀ j u, (mvd cs m)[j]? = some u → w.drew.cell? (A.add j) = some u) := by
    by_cases h : cap = 1
    · refine ⟨⟨g, 0, none⟩, by simp [h], fun j u hu => ?_⟩
      have h0 : (mvd cs m).length = 0 := by rw [mvd_length (by omega)]; omega
      rw [List.length_eq_zero_iff.1 h0] at hu
      simp at hu
    · refine ⟨⟨g, 1, none⟩, by simp [h], fun j u hu => ?_⟩
      have hj : j < m := by
        have := (List.getElem?_eq_some_iff.1 hu).1
        rwa [mvd_length (by omega)] at this
      rw [mvd_get hj] at hu
      rw [Addr.add_lit]
      exact hb.drew.cell (1 + j) u hu
  have s1 : Hid ((mvd cs m).length = m * 1) := by rw [Nat.mul_one]; exact mvd_length (by omega)
  have s2 : Hid (∀ u ∈ mvd cs m, u.oneCell' = true) := h1c
  have hsome : ∀ j, j < cap → ∃ u, w.cell? ⟨g, j, none⟩ = some u := by
    intro j hj
    exact ⟨_, hb.cell j _ (List.getElem?_eq_getElem (by omega))⟩
  have s3 : Hid (∀ j, j < (mvd cs m).length → (w.drew.cell? ⟨g, 0 + 0 * 1 + j, none⟩).isSome = true ∧ w.drew.frozen? ⟨g, 0 + 0 * 1 + j, none⟩ = false) := by
    intro j hj
    rw [mvd_length (by omega)] at hj
    simp only [Nat.zero_mul, Nat.zero_add]
    obtain ⟨u, hu⟩ := hsome j (by omega)
    exact ⟨by show (w.cell? _).isSome = true; rw [hu]; rfl, hb.drew.frozen j⟩
  have hb1 := hb.drew.setCells (mvd cs m) 0
  have hcl : ∀ ty, (Builtin.clear_ #[39] ty #[.slice (some ⟨g, m, none⟩) 1 (cap - m)]).run Try.prog (w.drew.setCells g 0 (mvd cs m)) = .ok (.tuple #[]) ((w.drew.setCells g 0 (mvd cs m)).setCells g m (List.replicate 1 (.pointer none))) :=
    fun ty => Lib.run_clear_slice _ 39 42 ty (.pointer none) Try.underlying39 zero42 rfl rfl g m 1 (cap - m) (by omega)
      (fun j hj => by
        have := hb1.cell (m + j) _ (List.getElem?_eq_getElem (by rw [lset_length]; omega))
        rw [this]; rfl)
      (fun j _ => hb1.frozen (m + j))
  have HB : Hid (Blk (w.drew.setCells g 0 (mvd cs m)) g (lset cs 0 (mvd cs m)) 42) := hb1
  have hp1 : (1 : Int) ≤ (m : Int) + 1 := by omega
  clear hb hsome h1c hb1
  go_enter Try.func20, Try.ntmps20
  go_wp2_with fail
  go_region_law (refine step_append_room rfl (.tmp 22) (.tmp 25) 39 rfl 42 i0 1 Try.underlying39 hi0 hz1 g 0 0 cap (by simp [Act.eval, Act.put]) A m (cap - 1) (mvd cs m) (by simp [Act.eval, Act.put]) s1.out hnews.out s2.out (by omega) s3.out ?_)
  go_wp2_with (simp only [hcl])
  go_ret
  exact ⟨rfl, del_but _ _ _ _ _, _, HB.out.setCells _ m, by rw [lset_length, lset_length]; exact hlen, lset_take _ _ _ (by rw [mvd_length (by omega)]) (by rw [mvd_length (by omega)]; omega)⟩
end Go.Proofs.Qxb6616645a
