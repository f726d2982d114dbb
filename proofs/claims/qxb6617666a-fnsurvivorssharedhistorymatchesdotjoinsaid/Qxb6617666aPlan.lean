import Derived.Test.Qxb6617666aZZ
namespace Go.Proofs.Qxb6617666a
open Go.RowKit
set_option linter.unusedVariables false

/-- What the two loops of zzMatchesDotJoin meet: P1 of l1's dots stay (its first ones), and P2 of l2's that l1's side has not seen. -/
structure Plan (n1 n2 N : Int) (l1 l2 J : List ByteArray) (P1 P2 : Nat) : Prop where
  le1 : P1 ≤ l1.length
  le2 : P2 ≤ l2.length
  sum : P1 + P2 = J.length
  top1 : n1 ≤ N
  top2 : n2 ≤ N
  both : ∀ i, i < l1.length → n1 - (i : Int) ≤ n2 → n2 - (l2.length : Int) < n1 - (i : Int) → i < P1 ∧ (n2 - (n1 - (i : Int))).toNat < l2.length ∧ J[(N - (n1 - (i : Int))).toNat]? = some (smax (l1.getD i ByteArray.empty) (l2.getD (n2 - (n1 - (i : Int))).toNat ByteArray.empty))
  only : ∀ i, i < l1.length → ¬ n1 - (i : Int) ≤ n2 → i < P1 ∧ J[(N - (n1 - (i : Int))).toNat]? = some (l1.getD i ByteArray.empty)
  gone : ∀ i, i < l1.length → n1 - (i : Int) ≤ n2 → ¬ n2 - (l2.length : Int) < n1 - (i : Int) → P1 ≤ i
  skip : ∀ i, i < l2.length → n2 - (i : Int) ≤ n1 → P2 ≤ i
  take : ∀ i, i < l2.length → ¬ n2 - (i : Int) ≤ n1 → i < P2 ∧ J[(N - (n2 - (i : Int))).toNat]? = some (l2.getD i ByteArray.empty)

theorem plan {n1 n2 N : Int} {l1 l2 J : List ByteArray} (h1 : (l1.length : Int) ≤ n1) (h2 : (l2.length : Int) ≤ n2) (hJ : Ans n1 n2 l1 l2 N J) : ∃ P1 P2, Plan n1 n2 N l1 l2 J P1 P2 := by
  rcases hJ with ⟨hlt, rfl, rfl⟩ | ⟨hlt, rfl, rfl⟩
  · obtain ⟨sk, hsk⟩ : ∃ sk : Nat, (N - n1).toNat = sk := ⟨_, rfl⟩
    rw [hsk]
    refine ⟨min l1.length (l2.length - sk), min sk l2.length, ?_, ?_, ?_, ?_, ?_, ?_, ?_, ?_, ?_, ?_⟩
    · omega
    · omega
    · rw [join_length]; unfold kept; omega
    · omega
    · omega
    · intro i hi h3 h4
      have e : (N - (n1 - (i : Int))).toNat = sk + i := by omega
      rw [e]
      refine ⟨by omega, by omega, ?_⟩
      rw [join_get (by unfold kept; omega)]
      unfold joinAt
      rw [if_neg (by omega), smax_comm, show sk + i - sk = i by omega]
    · intro i hi h3
      omega
    · intro i hi h3 h4
      omega
    · intro i hi h3
      omega
    · intro i hi h3
      have e : (N - (N - (i : Int))).toNat = i := by omega
      rw [e]
      refine ⟨by omega, ?_⟩
      rw [join_get (by unfold kept; omega)]
      unfold joinAt
      rw [if_pos (by omega)]
  · obtain ⟨sk, hsk⟩ : ∃ sk : Nat, (N - n2).toNat = sk := ⟨_, rfl⟩
    rw [hsk]
    refine ⟨kept l1 l2 sk, 0, ?_, ?_, ?_, ?_, ?_, ?_, ?_, ?_, ?_, ?_⟩
    · unfold kept; omega
    · omega
    · rw [join_length]; omega
    · omega
    · omega
    · intro i hi h3 h4
      have e : (N - (N - (i : Int))).toNat = i := by omega
      have e2 : (n2 - (N - (i : Int))).toNat = i - sk := by omega
      have hk : i < kept l1 l2 sk := by unfold kept; omega
      rw [e, e2]
      refine ⟨hk, by omega, ?_⟩
      rw [join_get hk]
      unfold joinAt
      rw [if_neg (by omega)]
    · intro i hi h3
      have e : (N - (N - (i : Int))).toNat = i := by omega
      have hk : i < kept l1 l2 sk := by unfold kept; omega
      rw [e]
      refine ⟨hk, ?_⟩
      rw [join_get hk]
      unfold joinAt
      rw [if_pos (by omega)]
    · intro i hi h3 h4
      unfold kept
      omega
    · intro i hi h3
      omega
    · intro i hi h3
      omega
end Go.Proofs.Qxb6617666a
