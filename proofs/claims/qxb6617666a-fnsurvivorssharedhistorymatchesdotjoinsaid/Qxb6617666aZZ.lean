import Derived.Test.Qxb6617666aSurv
namespace Go.Proofs.Qxb6617666a
open Go.RowKit
set_option linter.unusedVariables false
set_option linter.unusedSimpArgs false

/-- What survivors answers, and under which counter. -/
def Ans (n1 n2 : Int) (l1 l2 : List ByteArray) (N : Int) (J : List ByteArray) : Prop :=
  (n1 < n2 ∧ N = n2 ∧ J = join l2 l1 (n2 - n1).toNat) ∨ (¬ n1 < n2 ∧ N = n1 ∧ J = join l1 l2 (n1 - n2).toNat)
theorem Ans.le {n1 n2 N : Int} {l1 l2 J : List ByteArray} (h : Ans n1 n2 l1 l2 N J) (h1 : l1.length ≤ 1099511627776) (h2 : l2.length ≤ 1099511627776) : J.length ≤ 1099511627776 := by
  rcases h with ⟨_, _, rfl⟩ | ⟨_, _, rfl⟩
  · rw [join_length]; unfold kept; omega
  · rw [join_length]; unfold kept; omega

set_option maxRecDepth 100000 in
set_option maxHeartbeats 1000000 in
theorem zzsurv_any (s : ByteArray) (n1 n2 N : Int) (a1 a2 : Option Addr) (c1 c2 : Nat) (l1 l2 J : List ByteArray) (w : World) (hr1 : Rd w a1 l1) (hr2 : Rd w a2 l2)
    (h1 : (l1.length : Int) ≤ n1) (h2 : (l2.length : Int) ≤ n2) (h3 : n1 ≤ 18446744073709551615) (h4 : n2 ≤ 18446744073709551615) (h5 : l1.length ≤ 1099511627776) (h6 : l2.length ≤ 1099511627776) (hJ : Ans n1 n2 l1 l2 N J) :
    Calls Try.prog 7 #[.string s, .int .u64 n1, .slice a1 l1.length c1, .int .u64 n2, .slice a2 l2.length c2] w fun e w' => ∃ a c, e = .returned (.tuple #[.string s, .int .u64 N, .slice a J.length c]) ∧ Rd w' a J ∧ Below w.heap.size w w' := by
  have hJl := hJ.le h5 h6
  have HJ := hide hJ
  clear hJ
  go_enter Try.func7, Try.ntmps7
  go_wp2_with fail
  refine (from_any a1 none c1 l1 [] w hr1 rfl h5 (by simp)).mono ?_
  rintro e w1 ⟨u1, rfl, hl1, hb1⟩
  rw [List.append_nil] at hl1
  have hr2' := hr2.below hb1 (Nat.le_refl _)
  clear hr1 hr2
  go_wp2_with fail
  have b1 := Blk.new w1 [.pointer u1, .string s, .int .u64 n1] 37
  have hbw2 := hb1.alloc hb1.size (.cells #[.pointer u1, .string s, .int .u64 n1] 37)
  have hB2 := (Below.refl w1.heap.size w1).alloc (Nat.le_refl _) (.cells #[.pointer u1, .string s, .int .u64 n1] 37)
  have hl1' := Lst.below hB2 (Nat.le_refl _) _ _ hl1
  have hr2'' := hr2'.below hB2 (Nat.le_refl _)
  obtain ⟨W2, hW2⟩ : ∃ W, W = w1.alloc (.cells #[.pointer u1, .string s, .int .u64 n1] 37) := ⟨_, rfl⟩
  change Blk (w1.alloc (.cells #[.pointer u1, .string s, .int .u64 n1] 37)) _ _ _ at b1
  rw [← hW2] at b1 hbw2 hl1' hr2'' ⊢
  obtain ⟨x1, hx1⟩ : ∃ x, x = w1.heap.size := ⟨_, rfl⟩
  rw [← hx1] at b1 ⊢
  clear hW2 hx1 hl1 hr2' hb1 hB2
  refine (from_any a2 none c2 l2 [] W2 hr2'' rfl h6 (by simp)).mono ?_
  rintro e w3 ⟨u2, rfl, hl2, hb3⟩
  rw [List.append_nil] at hl2
  have b1' := b1.below hb3 b1.lt
  have hl1 := Lst.below hb3 (Nat.le_refl _) _ _ hl1'
  have hbw3 := hbw2.trans (hb3.mono hbw2.size)
  clear hr2'' b1 hl1' hb3 hbw2
  have e0 := (b1'.alloc (.cells #[.pointer u2, .string s, .int .u64 n2] 37)).cell 0 _ rfl
  have e1 := (b1'.alloc (.cells #[.pointer u2, .string s, .int .u64 n2] 37)).cell 1 _ rfl
  have e2 := (b1'.alloc (.cells #[.pointer u2, .string s, .int .u64 n2] 37)).cell 2 _ rfl
  have hx1 : ¬ w3.heap.size = x1 := by have := b1'.lt; omega
  have hB4 := (Below.refl w3.heap.size w3).alloc (Nat.le_refl _) (.cells #[.pointer u2, .string s, .int .u64 n2] 37)
  have hl1' := Lst.below hB4 (Nat.le_refl _) _ _ hl1
  have hl2' := Lst.below hB4 (Nat.le_refl _) _ _ hl2
  have hbw4 := hbw3.alloc hbw3.size (.cells #[.pointer u2, .string s, .int .u64 n2] 37)
  clear b1' hl1 hl2 hbw3 hB4
  go_wp2_with fail
  refine (survivors_any s s s u1 u2 n1 n2 N l1 l2 J _ hl1' hl2' h1 h2 h3 h4 h5 h6 HJ.out).mono ?_
  rintro e w5 ⟨u5, rfl, hl5, hb5⟩
  have hbw5 := hbw4.trans (hb5.mono hbw4.size)
  clear hl1' hl2' hbw4 hb5 e0 e1 e2 hx1
  go_wp2_with fail
  have b6 := Blk.new w5 [.pointer u5, .string s, .int .u64 N] 37
  have hbw6 := hbw5.alloc hbw5.size (.cells #[.pointer u5, .string s, .int .u64 N] 37)
  have hl6 := Lst.below ((Below.refl w5.heap.size w5).alloc (Nat.le_refl _) (.cells #[.pointer u5, .string s, .int .u64 N] 37)) (Nat.le_refl _) _ _ hl5
  obtain ⟨W6, hW6⟩ : ∃ W, W = w5.alloc (.cells #[.pointer u5, .string s, .int .u64 N] 37) := ⟨_, rfl⟩
  change Blk (w5.alloc (.cells #[.pointer u5, .string s, .int .u64 N] 37)) _ _ _ at b6
  rw [← hW6] at b6 hbw6 hl6 ⊢
  obtain ⟨x6, hx6⟩ : ∃ x, x = w5.heap.size := ⟨_, rfl⟩
  rw [← hx6] at b6 ⊢
  clear hW6 hx6 hl5 hbw5
  have f0 := b6.cell 0 _ rfl
  have f1 := b6.cell 1 _ rfl
  have f2 := b6.cell 2 _ rfl
  have HT := hide (to_any u5 J W6.drew hl6.drew hJl)
  have KEY := hide (fun w7 (h7 : Below W6.drew.heap.size W6.drew w7) => (⟨(b6.drew.below h7 b6.lt).cell 0 _ rfl, (b6.drew.below h7 b6.lt).cell 1 _ rfl, (b6.drew.below h7 b6.lt).cell 2 _ rfl⟩ : w7.cell? ⟨x6, 0, none⟩ = some (.pointer u5) ∧ w7.cell? ⟨x6, 1, none⟩ = some (.string s) ∧ w7.cell? ⟨x6, 2, none⟩ = some (.int .u64 N)))
  clear b6 hl6
  go_region_held (fun w' => w'.cell? ⟨x6, 0, none⟩ = some (.pointer u5) ∧ w'.cell? ⟨x6, 1, none⟩ = some (.string s) ∧ w'.cell? ⟨x6, 2, none⟩ = some (.int .u64 N)) (first | exact ⟨f0, f1, f2⟩ | assumption)
    (first | (go_at_call 14; refine Calls.mono (Hid.out HT) ?_; rintro e w7 ⟨a7, c7, rfl, hr7, hb7⟩; have k7 := Hid.out KEY w7 hb7))
  all_goals go_wp2
  all_goals go_ret3
  all_goals exact ⟨a7, c7, rfl, hr7, hbw6.trans (Below.mono ⟨hb7.os, hb7.tape, hb7.output, hb7.size, hb7.block⟩ hbw6.size)⟩
end Go.Proofs.Qxb6617666a
