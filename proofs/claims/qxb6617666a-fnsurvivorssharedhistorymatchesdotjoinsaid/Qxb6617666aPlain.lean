import Derived.WalkKit
import Derived.WalkSpells
import Derived.WalkLawsBesides
/-
  Plain facts: byte strings' order; what survivors answers, as a list. No dump is imported.
-/
namespace Go.Proofs.Qxb6617666a

theorem bytesLess_asymm : ∀ (x y : List UInt8), Op.bytesLess x y = true → Op.bytesLess y x = false
  | _, [], h => by simp [Op.bytesLess] at h
  | [], _ :: _, _ => by simp [Op.bytesLess]
  | a :: x, b :: y, h => by
    simp only [Op.bytesLess, Bool.or_eq_true, decide_eq_true_eq, Bool.and_eq_true, beq_iff_eq] at h
    simp only [Op.bytesLess, Bool.or_eq_false_iff, decide_eq_false_iff_not, Bool.and_eq_false_iff, beq_eq_false_iff_ne]
    rcases h with h | ⟨rfl, h⟩
    · rw [UInt8.lt_iff_toNat_lt] at h
      refine ⟨by rw [UInt8.lt_iff_toNat_lt]; omega, .inl ?_⟩
      intro e
      rw [e] at h
      omega
    · exact ⟨by rw [UInt8.lt_iff_toNat_lt]; omega, .inr (bytesLess_asymm x y h)⟩

theorem bytesLess_total : ∀ (x y : List UInt8), Op.bytesLess x y = false → Op.bytesLess y x = false → x = y
  | [], [], _, _ => rfl
  | [], _ :: _, h, _ => by simp [Op.bytesLess] at h
  | _ :: _, [], _, h => by simp [Op.bytesLess] at h
  | a :: x, b :: y, h, h' => by
    simp only [Op.bytesLess, Bool.or_eq_false_iff, decide_eq_false_iff_not, Bool.and_eq_false_iff, beq_eq_false_iff_ne] at h h'
    have e : a = b := by
      apply UInt8.toNat_inj.1
      have h1 := h.1
      have h2 := h'.1
      rw [UInt8.lt_iff_toNat_lt] at h1 h2
      omega
    subst e
    rcases h.2 with h3 | h3
    · exact absurd rfl h3
    · rcases h'.2 with h4 | h4
      · exact absurd rfl h4
      · rw [bytesLess_total x y h3 h4]

theorem toList_inj {a b : ByteArray} (h : a.toList = b.toList) : a = b := by
  have h' : a.data.toList = b.data.toList := by rw [← ByteArray.toList_eq, ← ByteArray.toList_eq]; exact h
  have : a.data = b.data := Array.toList_inj.1 h'
  cases a; cases b; simp_all

/-- The greater of two strings. -/
def smax (a b : ByteArray) : ByteArray := if Op.bytesLess a.toList b.toList = true then b else a

theorem smax_comm (a b : ByteArray) : smax a b = smax b a := by
  unfold smax
  cases h1 : Op.bytesLess a.toList b.toList
  · cases h2 : Op.bytesLess b.toList a.toList
    · simp [toList_inj (bytesLess_total _ _ h1 h2)]
    · simp
  · simp [bytesLess_asymm _ _ h1]

/-- 'b > a' in the model's own words. -/
theorem gtr_iff (a b : ByteArray) : (!(Op.bytesLess b.toList a.toList || b.toList == a.toList)) = Op.bytesLess a.toList b.toList := by
  cases h1 : Op.bytesLess a.toList b.toList
  · cases h2 : Op.bytesLess b.toList a.toList
    · simp [bytesLess_total _ _ h1 h2]
    · simp
  · have h2 := bytesLess_asymm _ _ h1
    have h3 : b.toList ≠ a.toList := by
      intro e
      rw [e] at h1 h2
      rw [h1] at h2
      cases h2
    simp [h2, h3]

/-- How many of the greater side's values stay. -/
def kept (l1 l2 : List ByteArray) (skip : Nat) : Nat := min (skip + l2.length) l1.length
/-- The joined values: index i of l1, and from skip on the greater of it and l2's at i - skip. -/
def joinAt (l1 l2 : List ByteArray) (skip i : Nat) : ByteArray :=
  if i < skip then l1.getD i ByteArray.empty else smax (l1.getD i ByteArray.empty) (l2.getD (i - skip) ByteArray.empty)
def join (l1 l2 : List ByteArray) (skip : Nat) : List ByteArray := (List.range (kept l1 l2 skip)).map (joinAt l1 l2 skip)
theorem join_length (l1 l2 : List ByteArray) (skip : Nat) : (join l1 l2 skip).length = kept l1 l2 skip := by simp [join]
theorem join_get {l1 l2 : List ByteArray} {skip i : Nat} (h : i < kept l1 l2 skip) : (join l1 l2 skip)[i]? = some (joinAt l1 l2 skip i) := by simp [join, h]

/-- Where no compared pair differs from l1's own, l1's first values are the join. -/
theorem join_take {l1 l2 : List ByteArray} {skip : Nat} (h : ∀ i, skip ≤ i → i < kept l1 l2 skip → smax (l1.getD i ByteArray.empty) (l2.getD (i - skip) ByteArray.empty) = l1.getD i ByteArray.empty) :
    join l1 l2 skip = l1.take (kept l1 l2 skip) := by
  apply List.ext_getElem?
  intro i
  by_cases hi : i < kept l1 l2 skip
  · rw [join_get hi, List.getElem?_take_of_lt hi]
    have hl : i < l1.length := by unfold kept at hi; omega
    have e : l1[i]? = some (l1.getD i ByteArray.empty) := by simp [List.getD, hl]
    rw [e]
    unfold joinAt
    split
    · rfl
    · rw [h i (by omega) hi]
  · rw [List.getElem?_eq_none (by rw [join_length]; omega), List.getElem?_eq_none (by simp; omega)]

theorem smax_self (x : ByteArray) : smax x x = x := by unfold smax; split <;> rfl

theorem join_done {l1 l2 : List ByteArray} {skip k m : Nat} (hm : m = kept l1 l2 skip) (h : ∀ i, i < k → smax (l1.getD (skip + i) ByteArray.empty) (l2.getD i ByteArray.empty) = l1.getD (skip + i) ByteArray.empty)
    (hk : m - skip ≤ k ∨ l1.drop (skip + k) = l2.drop k) : join l1 l2 skip = l1.take m := by
  rw [hm]
  apply join_take
  intro i h1 h2
  by_cases hi : i - skip < k
  · have := h (i - skip) hi
    rwa [show skip + (i - skip) = i by omega] at this
  · rcases hk with hk | hk
    · rw [hm] at hk; omega
    · have e : l1.getD i ByteArray.empty = l2.getD (i - skip) ByteArray.empty := by
        have e1 : (l1.drop (skip + k)).getD (i - skip - k) ByteArray.empty = l1.getD i ByteArray.empty := by
          simp only [List.getD, List.getElem?_drop]
          rw [show skip + k + (i - skip - k) = i by omega]
        have e2 : (l2.drop k).getD (i - skip - k) ByteArray.empty = l2.getD (i - skip) ByteArray.empty := by
          simp only [List.getD, List.getElem?_drop]
          rw [show k + (i - skip - k) = i - skip by omega]
        rw [← e1, ← e2, hk]
      rw [← e, smax_self]

end Go.Proofs.Qxb6617666a
