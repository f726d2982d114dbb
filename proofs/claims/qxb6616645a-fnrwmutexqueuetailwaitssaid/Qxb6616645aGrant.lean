import Derived.Test.Qxb6616645aDel
import Derived.Deep.LoopGhost
namespace Go.Proofs.Qxb6616645a
open Go.RowKit
set_option linter.unusedSimpArgs false
set_option linter.unusedVariables false

theorem Que.form {w : World} {lo hi : Nat} {v : Value} {n : Nat} {xs : Nat → Bool} {ps : List (Nat × Nat)} {x : Bool} (h : Que w lo hi v n xs ps x) : ∃ ao cap, v = .slice ao n cap := by
  rcases h.own.2 with ⟨rfl, rfl⟩ | ⟨g, cap, cur, rfl, _⟩
  · exact ⟨none, 0, rfl⟩
  · exact ⟨_, cap, rfl⟩

theorem Que.head {w : World} {lo hi : Nat} {v : Value} {n : Nat} {xs : Nat → Bool} {ps : List (Nat × Nat)} {x : Bool} (h : Que w lo hi v n xs ps x) (hn : 0 < n) :
    ∃ g cap cs p c, v = .slice (some ⟨g, 0, none⟩) n cap ∧ n ≤ cap ∧ cap ≤ maxLen ∧ Blk w g cs 42 ∧ cs.length = cap ∧ cs.take n = ptrs ps ∧ lo ≤ g ∧ g < hi ∧ ps[0]? = some (p, c) ∧ w.cell? ⟨g, 0, none⟩ = some (.pointer (some ⟨p, 0, none⟩)) ∧ Blk w p [.bool (xs 0), .chan (some c)] 45 := by
  rcases h.own.2 with ⟨rfl, rfl⟩ | ⟨g, cap, cur, rfl, hg, hh, h1, h2, h3, h4⟩
  · omega
  · obtain ⟨⟨p, c⟩, hp⟩ : ∃ q, ps[0]? = some q := ⟨_, List.getElem?_eq_getElem (by have := h.len; omega)⟩
    have hcs : Blk w g cur.toList 42 := by unfold Blk; simpa using hh
    refine ⟨g, cap, cur.toList, p, c, rfl, h1, h2, hcs, by simpa using h3, by simpa using h4, hg, h.top g rfl, hp, ?_, (h.node 0 _ hp).1⟩
    refine hcs.cell 0 _ ?_
    have : (cur.toList.take n)[0]? = some (.pointer (some ⟨p, 0, none⟩)) := by
      rw [show cur.toList.take n = ptrs ps by simpa using h4]
      simp [ptrs, hp]
    rwa [List.getElem?_take_of_lt hn] at this

set_option maxHeartbeats 400000 in
theorem grant_empty (bm cap : Nat) (ao : Option Addr) (c0 c1 c2 c3 : Value) (w : World) (hb : Blk w bm [c0, c1, c2, c3, .slice ao 0 cap] 41) :
    Calls Try.prog 16 #[.pointer (some ⟨bm, 0, none⟩)] w fun e w' => e = .returned (.tuple #[]) ∧ w' = w := by
  have h4 := hb.cell 4 _ rfl
  clear hb
  go_enter Try.func16, Try.ntmps16
  go_wp2
  go_loopg [2] 0 (fun k p wr => wr = w)
  case atStart => rfl
  case round =>
    subst hrel
    go_wp2
    go_end0
    exact ⟨rfl, rfl⟩

set_option maxHeartbeats 400000 in
theorem grant_shut (bm g n cap p : Nat) (c0 c1 : Value) (r : Int) (x y : Bool) (w : World) (hn : 0 < n) (hb : Blk w bm [c0, c1, .int .i64 r, .bool x, .slice (some ⟨g, 0, none⟩) n cap] 41)
    (hg : w.cell? ⟨g, 0, none⟩ = some (.pointer (some ⟨p, 0, none⟩))) (hp : w.cell? ⟨p, 0, none⟩ = some (.bool y)) (hno : (!x && (!y || r == 0)) = false) :
    Calls Try.prog 16 #[.pointer (some ⟨bm, 0, none⟩)] w fun e w' => e = .returned (.tuple #[]) ∧ w' = w := by
  have h4 := hb.cell 4 _ rfl
  have hf := (free_any bm _ _ _ r x y w hb)
  rw [hno] at hf
  have HF := Hid.out (p := True → Hid (Calls Try.prog 19 #[.pointer (some ⟨bm, 0, none⟩), .bool y] w fun e w' => e = .returned (.bool false) ∧ w' = w)) (fun _ => hf)
  clear hb hno hf
  go_enter Try.func16, Try.ntmps16
  go_wp2
  go_loopg [2] 0 (fun k p wr => wr = w)
  case atStart => rfl
  case round =>
    subst hrel
    go_wp2_with (go_at_call 19; refine Calls.mono (Hid.out (HF trivial)) ?_; rintro e w' ⟨rfl, rfl⟩)
    go_end0
    exact ⟨rfl, rfl⟩
end Go.Proofs.Qxb6616645a
