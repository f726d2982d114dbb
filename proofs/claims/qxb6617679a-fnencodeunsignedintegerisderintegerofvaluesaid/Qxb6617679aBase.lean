import Derived.Test.Qxb6617679aRows
import Derived.WalkKit
import Derived.WalkSpells
import Derived.WalkLawsBesides
import Derived.WalkSmall
import Derived.BigQuiet
import Derived.Deep.QuietTactic
import Derived.Deep.OwnRows
import Derived.Deep.Cut
import Derived.Laws.CopyOwn
namespace Go.Proofs.Qxb6617679a
open Go.RowKit
set_option linter.unusedVariables false

theorem hide {p : Prop} (h : p) : Hid p := h

/-- The slice at a reads as the bytes l. -/
def Rd (w : World) (a : Option Addr) (l : List Int) : Prop := ∀ i x, l[i]? = some x → ∃ g o, a = some ⟨g, o, none⟩ ∧ w.cell? ⟨g, o + i, none⟩ = some (.int .u8 x)
theorem Rd.nil (w : World) (a : Option Addr) : Rd w a [] := fun i x h => by simp at h
theorem Rd.below {w w' : World} {B : Nat} {a : Option Addr} {l : List Int} (h : Rd w a l) (hb : Below B w w') (hB : w.heap.size ≤ B) : Rd w' a l := by
  intro i x hi
  obtain ⟨g, o, e, hc⟩ := h i x hi
  have hg := World.block_lt_of_cell? w ⟨g, o + i, none⟩ hc
  simp only at hg
  exact ⟨g, o, e, (hb.cell (p := ⟨g, o + i, none⟩) (by simp only; omega)).trans hc⟩
theorem Rd.one {w : World} {a : Option Addr} {l : List Int} (h : Rd w a l) (hl : 0 < l.length) : ∃ b o, a = some ⟨b, o, none⟩ ∧ ∀ i x, l[i]? = some x → w.cell? ⟨b, o + i, none⟩ = some (.int .u8 x) := by
  obtain ⟨b, o, rfl, _⟩ := h 0 _ (List.getElem?_eq_getElem hl)
  refine ⟨b, o, rfl, fun i x hi => ?_⟩
  obtain ⟨b', o', e, hc⟩ := h i x hi
  simp only [Option.some.injEq, Addr.mk.injEq] at e
  obtain ⟨rfl, rfl, _⟩ := e
  exact hc
theorem Rd.drop {w : World} {b o : Nat} {l : List Int} (h : Rd w (some ⟨b, o, none⟩) l) (k : Nat) : Rd w (some ⟨b, o + k, none⟩) (l.drop k) := by
  intro i x hi
  rw [List.getElem?_drop] at hi
  obtain ⟨g, o', e, hc⟩ := h (k + i) x hi
  simp only [Option.some.injEq, Addr.mk.injEq] at e
  obtain ⟨rfl, rfl, _⟩ := e
  exact ⟨b, o + k, rfl, by rw [Nat.add_assoc]; exact hc⟩

/-- Each is a byte. -/
def Byt (l : List Int) : Prop := ∀ x ∈ l, 0 ≤ x ∧ x ≤ 255

def ints (l : List Int) : List Value := l.map (.int .u8)
theorem ints_length (l : List Int) : (ints l).length = l.length := by simp [ints]
theorem ints_one (l : List Int) : ∀ u ∈ ints l, u.oneCell' = true := by
  intro u hu
  obtain ⟨_, _, rfl⟩ := List.mem_map.1 hu
  rfl
theorem ints_get {l : List Int} {i : Nat} {x : Int} (h : l[i]? = some x) : (ints l)[i]? = some (.int .u8 x) := by simp [ints, h]
theorem ints_append (l m : List Int) : ints l ++ ints m = ints (l ++ m) := by simp [ints]
theorem one_cell (W : World) (u : Value) (t : TypeId) : ∀ j x, [u][j]? = some x → (W.alloc (.cells #[u] t)).cell? ((⟨W.heap.size, 0, none⟩ : Addr).add j) = some x := by
  intro j x hj
  match j, hj with
  | 0, hj => simp at hj; subst hj; simp [Addr.add]

theorem info5 : (Try.prog.info? 5).map (fun i => (i.zero, i.size, i.bytes)) = some (some (.int .u8 0), 1, 1) := by kernel_rfl

theorem Rd.owned {w : World} {base n g cap : Nat} {l : List Int} (h : w.ownsRow base 5 1 (.slice (some ⟨g, 0, none⟩) n cap) n (ints l)) : Rd w (some ⟨g, 0, none⟩) l := by
  intro i x hi
  refine ⟨g, 0, rfl, ?_⟩
  have := h.cells rfl i _ (ints_get hi)
  rw [Addr.add_lit] at this
  exact this
/-- The cells to be appended, in a later world. -/
theorem Rd.news {w : World} {a : Option Addr} {l : List Int} (h : Rd w a l) : ∀ ad, a = some ad → ∀ j u, (ints l)[j]? = some u → w.cell? (ad.add j) = some u := by
  intro ad e j u hu
  have hj : j < l.length := by have := (List.getElem?_eq_some_iff.1 hu).1; rwa [ints_length] at this
  have hx := ints_get (List.getElem?_eq_getElem hj)
  rw [hx] at hu
  obtain ⟨g, o, e', hc⟩ := h j _ (List.getElem?_eq_getElem hj)
  rw [e] at e'
  obtain rfl := Option.some.inj e'
  rw [Addr.add_lit, hc, hu]

/-! ### bits -/
theorem and128_fin : ∀ a : Fin 256, bits BinOp.and IntKind.u8 ((a.val : Nat) : Int) 128 = if 128 ≤ a.val then 128 else 0 := by decide +kernel
theorem and128 (x : Int) (h0 : 0 ≤ x) (h1 : x ≤ 255) : bits BinOp.and IntKind.u8 x 128 = if 128 ≤ x then 128 else 0 := by
  have := and128_fin ⟨x.toNat, by omega⟩
  simp only at this
  rw [show ((x.toNat : Nat) : Int) = x by omega] at this
  rw [this]
  by_cases h : 128 ≤ x
  · rw [if_pos h, if_pos (by omega)]
  · rw [if_neg h, if_neg (by omega)]
theorem or256 (n x : Int) (h0 : 0 ≤ n) (h1 : n < 65536) (h2 : 0 ≤ x) (h3 : x ≤ 255) : bits BinOp.or IntKind.u64 (n * 256) x = n * 256 + x := by
  rw [u64_or _ _ (by omega) (by omega) h2 (by omega)]
  have e1 : (n * 256).toNat = 2 ^ 8 * n.toNat := by omega
  rw [e1, ← Nat.two_pow_add_eq_or_of_lt (by omega)]
  omega

end Go.Proofs.Qxb6617679a
