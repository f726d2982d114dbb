import Derived.Test.Qxb6616645aGrant
namespace Go.Proofs.Qxb6616645a
open Go.RowKit
set_option linter.unusedSimpArgs false
set_option linter.unusedVariables false

/-- w' is w outside the blocks from lo to hi; no block has come. -/
structure Within (lo hi : Nat) (w w' : World) : Prop where
  os : w'.os = w.os
  tape : w'.tape = w.tape
  output : w'.output = w.output
  size : w'.heap.size = w.heap.size
  block : ∀ k, (k < lo ∨ hi ≤ k) → w'.heap[k]? = w.heap[k]?
theorem Within.refl (lo hi : Nat) (w : World) : Within lo hi w w := ⟨rfl, rfl, rfl, rfl, fun _ _ => rfl⟩
theorem Within.trans {lo hi : Nat} {a b c : World} (h : Within lo hi a b) (k : Within lo hi b c) : Within lo hi a c :=
  ⟨k.os.trans h.os, k.tape.trans h.tape, k.output.trans h.output, k.size.trans h.size, fun i hi => (k.block i hi).trans (h.block i hi)⟩
theorem Within.setCell {lo hi : Nat} {a w : World} (h : Within lo hi a w) {p : Addr} (u : Value) (h1 : lo ≤ p.block) (h2 : p.block < hi) : Within lo hi a (w.setCell p u) :=
  h.trans ⟨rfl, rfl, rfl, by simp [World.setCell], fun k hk => Below.heap_setCell _ _ _ _ (by omega)⟩
theorem Within.below {lo hi : Nat} {a w : World} (h : Within lo hi a w) : Below lo a w := ⟨h.os, h.tape, h.output, by rw [h.size]; exact Nat.le_refl _, fun k hk => h.block k (.inl hk)⟩

/-- The channel's block, closed. -/
def shutC (w : World) (c cp : Nat) (buf : Array Value) (s r : Nat) (tm : Bool) : World := { w with heap := w.heap.setIfInBounds c (.chan cp buf true s r tm) }
theorem shutC_other (w : World) (c cp : Nat) (buf : Array Value) (s r : Nat) (tm : Bool) (k : Nat) (h : k ≠ c) : (shutC w c cp buf s r tm).heap[k]? = w.heap[k]? := by
  simp only [shutC]
  rw [Array.getElem?_setIfInBounds_ne (by omega)]

theorem Blk.ne {w : World} {a b : Nat} {cs ds : List Value} {s t : TypeId} (h : Blk w a cs s) (k : Blk w b ds t) (hst : s ≠ t) : a ≠ b := by
  intro e
  subst e
  unfold Blk at *
  rw [h] at k
  simp at k
  exact hst k.2
theorem Blk.neOpn {w : World} {a c cp s r : Nat} {buf : Array Value} {tm : Bool} {cs : List Value} {t : TypeId} (h : Blk w a cs t) (k : w.heap[c]? = some (.chan cp buf false s r tm)) : a ≠ c := by
  intro e
  subst e
  unfold Blk at *
  rw [h] at k
  simp at k

/-- What grant leaves where the head writer goes in. -/
theorem fin_step {w w1 : World} {bm hi g m cap p c cp s rr : Nat} {buf : Array Value} {tm : Bool} {c0 c1 : Value} {r : Int} {xs : Nat → Bool} {ps : List (Nat × Nat)} {cs cs' : List Value}
    (hbm : bm < hi) (hb : Blk w bm [c0, c1, .int .i64 r, .bool false, .slice (some ⟨g, 0, none⟩) (m + 1) cap] 41)
    (hq : Que w (bm + 1) hi (.slice (some ⟨g, 0, none⟩) (m + 1) cap) (m + 1) xs ps false)
    (hg : Blk w g cs 42) (hcap : m + 1 ≤ cap) (hmax : cap ≤ maxLen) (hlo : bm + 1 ≤ g) (hhi : g < hi) (htake : cs.take (m + 1) = ptrs ps) (hp : ps[0]? = some (p, c)) (hc : w.heap[c]? = some (.chan cp buf false s rr tm))
    (hbut : But g w w1) (hg1 : Blk w1 g cs' 42) (hl : cs'.length = cap) (ht : cs'.take m = mvd cs m) :
    Blk (shutC ((w1.setCell ⟨bm, 4, none⟩ (.slice (some ⟨g, 0, none⟩) m cap)).setCell ⟨bm, 3, none⟩ (.bool true)) c cp buf s rr tm) bm [c0, c1, .int .i64 r, .bool true, .slice (some ⟨g, 0, none⟩) m cap] 41 ∧
    Que (shutC ((w1.setCell ⟨bm, 4, none⟩ (.slice (some ⟨g, 0, none⟩) m cap)).setCell ⟨bm, 3, none⟩ (.bool true)) c cp buf s rr tm) (bm + 1) hi (.slice (some ⟨g, 0, none⟩) m cap) m (fun i => xs (i + 1)) ps.tail true ∧
    Within bm hi w (shutC ((w1.setCell ⟨bm, 4, none⟩ (.slice (some ⟨g, 0, none⟩) m cap)).setCell ⟨bm, 3, none⟩ (.bool true)) c cp buf s rr tm) := by
  obtain ⟨hc1, hc2, _⟩ := hq.opn rfl _ hp
  simp only at hc1 hc2
  have hgc : g ≠ c := hg.neOpn hc
  have hbc : bm ≠ c := hb.neOpn hc
  have hbg : bm ≠ g := by omega
  have hall : ∀ k, k ≠ bm → k ≠ g → k ≠ c → (shutC ((w1.setCell ⟨bm, 4, none⟩ (.slice (some ⟨g, 0, none⟩) m cap)).setCell ⟨bm, 3, none⟩ (.bool true)) c cp buf s rr tm).heap[k]? = w.heap[k]? := by
    intro k h1 h2 h3
    rw [shutC_other _ _ _ _ _ _ _ _ h3, Below.heap_setCell _ _ _ _ h1, Below.heap_setCell _ _ _ _ h1, hbut.block k h2]
  have hgg : Blk (shutC ((w1.setCell ⟨bm, 4, none⟩ (.slice (some ⟨g, 0, none⟩) m cap)).setCell ⟨bm, 3, none⟩ (.bool true)) c cp buf s rr tm) g cs' 42 := by
    unfold Blk at *
    rw [shutC_other _ _ _ _ _ _ _ _ hgc, Below.heap_setCell _ _ _ _ (by simp; omega), Below.heap_setCell _ _ _ _ (by simp; omega)]
    exact hg1
  have hb1 : Blk w1 bm [c0, c1, .int .i64 r, .bool false, .slice (some ⟨g, 0, none⟩) (m + 1) cap] 41 := by unfold Blk at *; rw [hbut.block _ hbg]; exact hb
  have hlen := hq.len
  refine ⟨?_, ⟨?_, ⟨?_, .inr ⟨g, cap, cs'.toArray, rfl, hlo, hgg, by omega, hmax, by simpa using hl, ?_⟩⟩, ?_, ?_, ?_⟩, ?_⟩
  · have := (hb1.set 4 (.slice (some ⟨g, 0, none⟩) m cap)).set 3 (.bool true)
    unfold Blk at *
    rw [shutC_other _ _ _ _ _ _ _ _ hbc]
    exact this
  · simp [hlen]
  · simp [ptrs, hlen]
  · simp only [Nat.mul_one]
    rw [ht]
    have h1 : mvd cs m = (cs.take (m + 1)).drop 1 := by
      unfold mvd
      rw [List.drop_take]
      simp
    rw [h1, htake]
    simp [ptrs, List.map_tail]
  · intro k hk
    simp [Value.ownBlock] at hk
    omega
  · intro i q hqi
    rw [List.getElem?_tail] at hqi
    obtain ⟨n1, n2, n3⟩ := hq.node (i + 1) q hqi
    refine ⟨?_, n2, n3⟩
    have e1 : q.1 ≠ bm := by omega
    have e2 : q.1 ≠ g := Blk.ne n1 hg (by decide)
    have e3 : q.1 ≠ c := n1.neOpn hc
    unfold Blk at *
    rw [hall _ e1 e2 e3]
    exact n1
  · intro h; cases h
  · refine ⟨hbut.os, hbut.tape, hbut.output, ?_, fun k hk => hall k (by omega) (by omega) (by omega)⟩
    have := hbut.size
    simpa [shutC, World.setCell] using this

end Go.Proofs.Qxb6616645a
