import Derived.Test.Qxb6617666aPlan
namespace Go.Proofs.Qxb6617666a
open Go.RowKit
set_option linter.unusedVariables false
set_option linter.unusedSimpArgs false

theorem cmp3 (x y : ByteArray) : (smax x y = y ∧ Op.bytesLess y.toList x.toList = false ∧ (y.toList == x.toList) = false) ∨ (smax x y = x ∧ Op.bytesLess y.toList x.toList = true) ∨ (smax x y = x ∧ Op.bytesLess y.toList x.toList = false ∧ (y.toList == x.toList) = true) := by
  cases h1 : Op.bytesLess x.toList y.toList
  · cases h2 : Op.bytesLess y.toList x.toList
    · have e := bytesLess_total _ _ h1 h2
      exact .inr (.inr ⟨by simp [smax, h1], rfl, by rw [e]; simp⟩)
    · exact .inr (.inl ⟨by simp [smax, h1], rfl⟩)
  · have h2 := bytesLess_asymm _ _ h1
    refine .inl ⟨by simp [smax, h1], h2, ?_⟩
    have h3 : y.toList ≠ x.toList := by
      intro e
      rw [e] at h1 h2
      rw [h1] at h2
      cases h2
    simpa using h3

set_option maxRecDepth 100000 in
set_option maxHeartbeats 4000000 in
theorem match_any (s : ByteArray) (n1 n2 N : Int) (a1 a2 a3 : Option Addr) (c1 c2 c3 : Nat) (l1 l2 J : List ByteArray) (w : World) (hr1 : Rd w a1 l1) (hr2 : Rd w a2 l2) (hr3 : Rd w a3 J)
    (h1 : (l1.length : Int) ≤ n1) (h2 : (l2.length : Int) ≤ n2) (h3 : n1 ≤ 18446744073709551615) (h4 : n2 ≤ 18446744073709551615) (h5 : l1.length ≤ 1099511627776) (h6 : l2.length ≤ 1099511627776) (hJ : Ans n1 n2 l1 l2 N J) :
    Calls Try.prog 8 #[.string s, .int .u64 n1, .slice a1 l1.length c1, .int .u64 n2, .slice a2 l2.length c2, .string s, .int .u64 N, .slice a3 J.length c3] w fun e w' => e = .returned (.bool true) ∧ w' = w := by
  have hJl := hJ.le h5 h6
  obtain ⟨P1, P2, hp⟩ := plan h1 h2 hJ
  have hle1 := hp.le1
  have hle2 := hp.le2
  have hN : N ≤ 18446744073709551615 := by rcases hJ with ⟨_, rfl, _⟩ | ⟨_, rfl, _⟩ <;> assumption
  have ht1 := hp.top1
  have ht2 := hp.top2
  rcases hJ with ⟨hlt, hNN, hjj⟩ | ⟨hlt, hNN, hjj⟩
  all_goals
    clear hjj
    obtain rfl := hNN.symm
    clear hNN
    go_enter Try.func8, Try.ntmps8
    go_wp2
    go_loop [20, 21] (fun c i => ∃ k cnt : Nat, k ≤ l1.length ∧ i = .int .i64 k ∧ c = .int .i64 cnt ∧ Hid (cnt = min k P1) ∧ cnt ≤ k) (fun _ i => l1.length - (intOf i).toNat)
    case atStart => exact ⟨0, 0, Nat.zero_le _, rfl, rfl, (by simp : 0 = min 0 P1), Nat.le_refl _⟩
    case round =>
      obtain ⟨k, cnt, hk, rfl, rfl, HC, hck⟩ := hrel
      by_cases hkl : k < l1.length
      · obtain ⟨b, o, rfl, hc⟩ := hr1.at hkl
        obtain ⟨x, hx⟩ : ∃ x, l1.getD k ByteArray.empty = x := ⟨_, rfl⟩
        rw [hx] at hc
        by_cases hA : n1 - (k : Int) ≤ n2
        · by_cases hB : n2 - (l2.length : Int) < n1 - (k : Int)
          · obtain ⟨q1, q2, q3⟩ := hp.both k hkl hA hB
            obtain ⟨y, hy⟩ : ∃ y, l2.getD (n2 - (n1 - (k : Int))).toNat ByteArray.empty = y := ⟨_, rfl⟩
            rw [hy, hx] at q3
            have HA := hide (at_yes a3 J c3 _ (n1 - k) (smax x y) w hr3 hJl (by omega) (by omega) hN q3)
            obtain ⟨j, hj⟩ : ∃ j, (n2 - (n1 - (k : Int))).toNat = j := ⟨_, rfl⟩
            rw [hj] at q2 hy
            obtain ⟨b2, o2, rfl, hc2⟩ := hr2.at q2
            rw [hy] at hc2
            have hj' : n2 - (n1 - (k : Int)) = (j : Int) := by omega
            clear q3 hx hy hj
            rcases cmp3 x y with ⟨e, f1, f2⟩ | ⟨e, f1⟩ | ⟨e, f1, f2⟩
            all_goals
              rw [e] at HA
              clear e
              go_wp2_with (go_at_call 15; refine Calls.mono HA.out ?_; rintro e w' ⟨rfl, hw⟩; subst w')
              go_round
              case rel => exact ⟨k + 1, cnt + 1, by omega, by go_num, by go_num, (by have := HC.out; omega : cnt + 1 = min (k + 1) P1), by omega⟩
              case measure => simp [intOf]; omega
          · have q1 := hp.gone k hkl hA hB
            go_wp2
            go_round
            case rel => exact ⟨k + 1, cnt, by omega, by go_num, rfl, (by have := HC.out; omega : cnt = min (k + 1) P1), by omega⟩
            case measure => simp [intOf]; omega
        · obtain ⟨q1, q3⟩ := hp.only k hkl hA
          rw [hx] at q3
          have HA := hide (at_yes a3 J c3 _ (n1 - k) x w hr3 hJl (by omega) (by omega) hN q3)
          clear q3 hx
          go_wp2_with (go_at_call 15; refine Calls.mono HA.out ?_; rintro e w' ⟨rfl, hw⟩; subst w')
          go_round
          case rel => exact ⟨k + 1, cnt + 1, by omega, by go_num, by go_num, (by have := HC.out; omega : cnt + 1 = min (k + 1) P1), by omega⟩
          case measure => simp [intOf]; omega
      · have hcp : cnt = P1 := by have := HC.out; omega
        subst hcp
        clear HC
        go_wp2
        go_loop [20, 25] (fun c i => ∃ k q : Nat, k ≤ l2.length ∧ i = .int .i64 k ∧ c = .int .i64 q ∧ Hid (q = cnt + min k P2) ∧ q ≤ l1.length + k) (fun _ i => l2.length - (intOf i).toNat)
        case atStart => exact ⟨0, cnt, Nat.zero_le _, rfl, rfl, (by simp : cnt = cnt + min 0 P2), by omega⟩
        case round =>
          obtain ⟨k2, q, hk2, rfl, rfl, HC, hq⟩ := hrel
          by_cases hkl2 : k2 < l2.length
          · obtain ⟨b, o, rfl, hc⟩ := hr2.at hkl2
            obtain ⟨x, hx⟩ : ∃ x, l2.getD k2 ByteArray.empty = x := ⟨_, rfl⟩
            rw [hx] at hc
            by_cases hA : n2 - (k2 : Int) ≤ n1
            · have q1 := hp.skip k2 hkl2 hA
              go_wp2
              go_round
              case rel => exact ⟨k2 + 1, q, by omega, by go_num, rfl, (by have := HC.out; omega : q = cnt + min (k2 + 1) P2), by omega⟩
              case measure => simp [intOf]; omega
            · obtain ⟨q1, q3⟩ := hp.take k2 hkl2 hA
              rw [hx] at q3
              have HA := hide (at_yes a3 J c3 _ (n2 - k2) x w hr3 hJl (by omega) (by omega) hN q3)
              clear q3 hx
              go_wp2_with (go_at_call 15; refine Calls.mono HA.out ?_; rintro e w' ⟨rfl, hw⟩; subst w')
              go_round
              case rel => exact ⟨k2 + 1, q + 1, by omega, by go_num, by go_num, (by have := HC.out; omega : q + 1 = cnt + min (k2 + 1) P2), by omega⟩
              case measure => simp [intOf]; omega
          · have hqq : q = J.length := by have := HC.out; have := hp.sum; omega
            subst hqq
            go_wp2
            go_ret
            exact ⟨rfl, rfl⟩
end Go.Proofs.Qxb6617666a
