import Derived.Test.Qxb6617666aBase
namespace Go.Proofs.Qxb6617666a
open Go.RowKit
set_option linter.unusedVariables false
set_option linter.unusedSimpArgs false

/-- Each string's length is an int. -/
def Fits (l : List ByteArray) : Prop := ∀ i, (l.getD i ByteArray.empty).size ≤ 9223372036854775807

/-- It answers a bool and turns nothing; where it answers b, P holds. -/
def Said (w : World) (b : Bool) (P : Prop) (e : Ending) (w' : World) : Prop := ∃ c, e = .returned (.bool c) ∧ w' = w ∧ (c = b → P)
theorem Said.off {w : World} {b c : Bool} {P : Prop} (h : c ≠ b) : Said w b P (.returned (.bool c)) w := ⟨c, rfl, rfl, fun e => absurd e h⟩
theorem Said.on {w : World} {b : Bool} {P : Prop} (h : P) : Said w b P (.returned (.bool b)) w := ⟨b, rfl, rfl, fun _ => h⟩

set_option maxRecDepth 100000 in
set_option maxHeartbeats 1600000 in
theorem bytes5_any (s : ByteArray) (n1 n2 : Int) (a1 a2 : Option Addr) (c1 c2 : Nat) (l1 l2 : List ByteArray) (w : World) (hs : s.size ≤ maxLen) (hr1 : Rd w a1 l1) (hr2 : Rd w a2 l2) (f1 : Fits l1) (f2 : Fits l2) (q1 : l1.length ≤ maxLen) (q2 : l2.length ≤ maxLen) :
    Calls Try.prog 5 #[.string s, .int .u64 n1, .slice a1 l1.length c1, .int .u64 n2, .slice a2 l2.length c2] w (Said w true (l1.length ≤ 1048576 ∧ l2.length ≤ 1048576)) := by
  unfold maxLen at hs q1 q2
  go_enter Try.func5, Try.ntmps5
  go_wp2
  all_goals first | (go_ret; exact Said.off (by decide)) | skip
  go_loop [11, 12] (fun t i => ∃ k z : Nat, k ≤ l1.length ∧ i = .int .i64 k ∧ t = .int .i64 z ∧ z ≤ 1048576) (fun _ i => l1.length - (intOf i).toNat)
  case atStart => exact ⟨0, s.size + l1.length, Nat.zero_le _, rfl, by go_num, by omega⟩
  case round =>
    obtain ⟨k, z, hk, rfl, rfl, hz⟩ := hrel
    by_cases hkl : k < l1.length
    · obtain ⟨b, o, rfl, hc⟩ := hr1.at hkl
      have hx := f1 k
      obtain ⟨x, hxx⟩ : ∃ x, l1.getD k ByteArray.empty = x := ⟨_, rfl⟩
      rw [hxx] at hc hx
      clear hxx
      go_wp2
      all_goals first
        | (go_ret; exact Said.off (by decide))
        | (go_round
           case rel => exact ⟨k + 1, z + x.size, by omega, by go_num, by go_num, by omega⟩
           case measure => simp [intOf]; omega)
    · obtain rfl : k = l1.length := by omega
      go_wp2
      all_goals first | (go_ret; exact Said.off (by decide)) | skip
      go_loop [11, 13] (fun t i => ∃ k z : Nat, k ≤ l2.length ∧ i = .int .i64 k ∧ t = .int .i64 z ∧ z ≤ 1048576) (fun _ i => l2.length - (intOf i).toNat)
      case atStart => exact ⟨0, z + l2.length, Nat.zero_le _, rfl, by go_num, by omega⟩
      case round =>
        obtain ⟨k, z, hk, rfl, rfl, hz⟩ := hrel
        by_cases hkl : k < l2.length
        · obtain ⟨b, o, rfl, hc⟩ := hr2.at hkl
          have hx := f2 k
          obtain ⟨x, hxx⟩ : ∃ x, l2.getD k ByteArray.empty = x := ⟨_, rfl⟩
          rw [hxx] at hc hx
          clear hxx
          go_wp2
          all_goals first
            | (go_ret; exact Said.off (by decide))
            | (go_round
               case rel => exact ⟨k + 1, z + x.size, by omega, by go_num, by go_num, by omega⟩
               case measure => simp [intOf]; omega)
        · obtain rfl : k = l2.length := by omega
          go_wp2
          go_ret
          exact Said.on ⟨by omega, by omega⟩

set_option maxRecDepth 100000 in
set_option maxHeartbeats 1600000 in
theorem bytes9_any (s : ByteArray) (n1 n2 : Int) (a1 a2 a3 : Option Addr) (c1 c2 c3 : Nat) (l1 l2 l3 : List ByteArray) (w : World) (hs : s.size ≤ maxLen) (hr1 : Rd w a1 l1) (hr2 : Rd w a2 l2) (hr3 : Rd w a3 l3) (f1 : Fits l1) (f2 : Fits l2) (f3 : Fits l3) (q1 : l1.length ≤ maxLen) (q2 : l2.length ≤ maxLen) (q3 : l3.length ≤ maxLen) :
    Calls Try.prog 9 #[.string s, .int .u64 n1, .slice a1 l1.length c1, .int .u64 n2, .slice a2 l2.length c2, .slice a3 l3.length c3] w (Said w true (l1.length ≤ 1048576 ∧ l2.length ≤ 1048576 ∧ l3.length ≤ 1048576)) := by
  unfold maxLen at hs q1 q2 q3
  go_enter Try.func9, Try.ntmps9
  go_wp2
  all_goals first | (go_ret; exact Said.off (by decide)) | skip
  go_loop [13, 14] (fun t i => ∃ k z : Nat, k ≤ l1.length ∧ i = .int .i64 k ∧ t = .int .i64 z ∧ z ≤ 1048576) (fun _ i => l1.length - (intOf i).toNat)
  case atStart => exact ⟨0, s.size + l1.length, Nat.zero_le _, rfl, by go_num, by omega⟩
  case round =>
    obtain ⟨k, z, hk, rfl, rfl, hz⟩ := hrel
    by_cases hkl : k < l1.length
    · obtain ⟨b, o, rfl, hc⟩ := hr1.at hkl
      have hx := f1 k
      obtain ⟨x, hxx⟩ : ∃ x, l1.getD k ByteArray.empty = x := ⟨_, rfl⟩
      rw [hxx] at hc hx
      clear hxx
      go_wp2
      all_goals first
        | (go_ret; exact Said.off (by decide))
        | (go_round
           case rel => exact ⟨k + 1, z + x.size, by omega, by go_num, by go_num, by omega⟩
           case measure => simp [intOf]; omega)
    · obtain rfl : k = l1.length := by omega
      go_wp2
      all_goals first | (go_ret; exact Said.off (by decide)) | skip
      go_loop [13, 15] (fun t i => ∃ k z : Nat, k ≤ l2.length ∧ i = .int .i64 k ∧ t = .int .i64 z ∧ z ≤ 1048576) (fun _ i => l2.length - (intOf i).toNat)
      case atStart => exact ⟨0, z + l2.length, Nat.zero_le _, rfl, by go_num, by omega⟩
      case round =>
        obtain ⟨k, z, hk, rfl, rfl, hz⟩ := hrel
        by_cases hkl : k < l2.length
        · obtain ⟨b, o, rfl, hc⟩ := hr2.at hkl
          have hx := f2 k
          obtain ⟨x, hxx⟩ : ∃ x, l2.getD k ByteArray.empty = x := ⟨_, rfl⟩
          rw [hxx] at hc hx
          clear hxx
          go_wp2
          all_goals first
            | (go_ret; exact Said.off (by decide))
            | (go_round
               case rel => exact ⟨k + 1, z + x.size, by omega, by go_num, by go_num, by omega⟩
               case measure => simp [intOf]; omega)
        · obtain rfl : k = l2.length := by omega
          go_wp2
          all_goals first | (go_ret; exact Said.off (by decide)) | skip
          go_loop [13, 16] (fun t i => ∃ k z : Nat, k ≤ l3.length ∧ i = .int .i64 k ∧ t = .int .i64 z ∧ z ≤ 1048576) (fun _ i => l3.length - (intOf i).toNat)
          case atStart => exact ⟨0, z + l3.length, Nat.zero_le _, rfl, by go_num, by omega⟩
          case round =>
            obtain ⟨k, z, hk, rfl, rfl, hz⟩ := hrel
            by_cases hkl : k < l3.length
            · obtain ⟨b, o, rfl, hc⟩ := hr3.at hkl
              have hx := f3 k
              obtain ⟨x, hxx⟩ : ∃ x, l3.getD k ByteArray.empty = x := ⟨_, rfl⟩
              rw [hxx] at hc hx
              clear hxx
              go_wp2
              all_goals first
                | (go_ret; exact Said.off (by decide))
                | (go_round
                   case rel => exact ⟨k + 1, z + x.size, by omega, by go_num, by go_num, by omega⟩
                   case measure => simp [intOf]; omega)
            · obtain rfl : k = l3.length := by omega
              go_wp2
              go_ret
              exact Said.on ⟨by omega, by omega, by omega⟩

set_option maxRecDepth 100000 in
set_option maxHeartbeats 1600000 in
theorem big_any (s : ByteArray) (a1 a2 a3 : Option Addr) (c1 c2 c3 : Nat) (l1 l2 l3 : List ByteArray) (w : World) (hs : s.size ≤ maxLen) (hr1 : Rd w a1 l1) (hr2 : Rd w a2 l2) (hr3 : Rd w a3 l3) (f1 : Fits l1) (f2 : Fits l2) (f3 : Fits l3) (q1 : l1.length ≤ maxLen) (q2 : l2.length ≤ maxLen) (q3 : l3.length ≤ maxLen) :
    Calls Try.prog 6 #[.string s, .slice a1 l1.length c1, .slice a2 l2.length c2, .slice a3 l3.length c3] w (Said w false (True)) := by
  unfold maxLen at hs q1 q2 q3
  go_enter Try.func6, Try.ntmps6
  go_wp2
  all_goals first | (go_ret; exact Said.off (by decide)) | skip
  go_loop [9, 10] (fun t i => ∃ k z : Nat, k ≤ l1.length ∧ i = .int .i64 k ∧ t = .int .i64 z ∧ z ≤ 1048576) (fun _ i => l1.length - (intOf i).toNat)
  case atStart => exact ⟨0, s.size, Nat.zero_le _, rfl, by go_num, by omega⟩
  case round =>
    obtain ⟨k, z, hk, rfl, rfl, hz⟩ := hrel
    by_cases hkl : k < l1.length
    · obtain ⟨b, o, rfl, hc⟩ := hr1.at hkl
      have hx := f1 k
      obtain ⟨x, hxx⟩ : ∃ x, l1.getD k ByteArray.empty = x := ⟨_, rfl⟩
      rw [hxx] at hc hx
      clear hxx
      go_wp2
      all_goals first
        | (go_ret; exact Said.off (by decide))
        | (go_round
           case rel => exact ⟨k + 1, z + (16 + x.size), by omega, by go_num, by go_num, by omega⟩
           case measure => simp [intOf]; omega)
    · obtain rfl : k = l1.length := by omega
      go_wp2
      all_goals first | (go_ret; exact Said.off (by decide)) | skip
      go_loop [9, 11] (fun t i => ∃ k z : Nat, k ≤ l2.length ∧ i = .int .i64 k ∧ t = .int .i64 z ∧ z ≤ 1048576) (fun _ i => l2.length - (intOf i).toNat)
      case atStart => exact ⟨0, z, Nat.zero_le _, rfl, by go_num, by omega⟩
      case round =>
        obtain ⟨k, z, hk, rfl, rfl, hz⟩ := hrel
        by_cases hkl : k < l2.length
        · obtain ⟨b, o, rfl, hc⟩ := hr2.at hkl
          have hx := f2 k
          obtain ⟨x, hxx⟩ : ∃ x, l2.getD k ByteArray.empty = x := ⟨_, rfl⟩
          rw [hxx] at hc hx
          clear hxx
          go_wp2
          all_goals first
            | (go_ret; exact Said.off (by decide))
            | (go_round
               case rel => exact ⟨k + 1, z + (16 + x.size), by omega, by go_num, by go_num, by omega⟩
               case measure => simp [intOf]; omega)
        · obtain rfl : k = l2.length := by omega
          go_wp2
          all_goals first | (go_ret; exact Said.off (by decide)) | skip
          go_loop [9, 12] (fun t i => ∃ k z : Nat, k ≤ l3.length ∧ i = .int .i64 k ∧ t = .int .i64 z ∧ z ≤ 1048576) (fun _ i => l3.length - (intOf i).toNat)
          case atStart => exact ⟨0, z, Nat.zero_le _, rfl, by go_num, by omega⟩
          case round =>
            obtain ⟨k, z, hk, rfl, rfl, hz⟩ := hrel
            by_cases hkl : k < l3.length
            · obtain ⟨b, o, rfl, hc⟩ := hr3.at hkl
              have hx := f3 k
              obtain ⟨x, hxx⟩ : ∃ x, l3.getD k ByteArray.empty = x := ⟨_, rfl⟩
              rw [hxx] at hc hx
              clear hxx
              go_wp2
              all_goals first
                | (go_ret; exact Said.off (by decide))
                | (go_round
                   case rel => exact ⟨k + 1, z + (16 + x.size), by omega, by go_num, by go_num, by omega⟩
                   case measure => simp [intOf]; omega)
            · obtain rfl : k = l3.length := by omega
              go_wp2
              go_ret
              exact Said.on trivial

end Go.Proofs.Qxb6617666a
