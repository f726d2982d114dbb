import Derived.Test.Qxb6617679aEui
namespace Go.Proofs.Qxb6617679a
open Go.RowKit
set_option linter.unusedVariables false
set_option linter.unusedSimpArgs false

theorem Rd.at {w : World} {g o : Nat} {l : List Int} (h : Rd w (some ⟨g, o, none⟩) l) {i : Nat} {x : Int} (hx : l[i]? = some x) : w.cell? ⟨g, o + i, none⟩ = some (.int .u8 x) := by
  obtain ⟨b, o', e, hc⟩ := h i x hx
  simp only [Option.some.injEq, Addr.mk.injEq] at e
  obtain ⟨rfl, rfl, _⟩ := e
  exact hc

set_option maxHeartbeats 400000 in
theorem parse_short (g L : Nat) (C : List Int) (w : World) (hr : Rd w (some ⟨g, 0, none⟩) (2 :: (L : Int) :: C)) (hL : L < 128) (h1 : 1 ≤ L) :
    Calls Try.prog 6 #[.slice (some ⟨g, 0, none⟩) (2 + L) (6 + L), .int .u8 2] w fun e w' => ∃ c, e = .returned (.tuple #[.slice (some ⟨g, 2, none⟩) L c, .bool true]) ∧ w' = w ∧ L < c := by
  have c0 := hr.at (i := 0) rfl
  have c1 := hr.at (i := 1) rfl
  simp only [Nat.add_zero, Nat.zero_add] at c0 c1
  have e1 : ¬ (6 + L = 2) := by omega
  have e2 : 2 + L - 2 = L := by omega
  have e3 : ¬ (2 : Int) + (L : Int) < 2 := by omega
  have e4 : (L : Int) < 128 := by omega
  clear hr
  go_enter Try.func6, Try.ntmps6
  go_wp2
  go_ret2
  exact ⟨_, rfl, rfl, by omega⟩

theorem and127 (K : Nat) (h1 : 1 ≤ K) (h2 : K ≤ 3) : bits BinOp.and IntKind.u8 (128 + (K : Int)) 127 = (K : Int) := by
  have h : K = 1 ∨ K = 2 ∨ K = 3 := by omega
  rcases h with rfl | rfl | rfl <;> decide +kernel

set_option maxRecDepth 100000 in
set_option maxHeartbeats 800000 in
theorem parse_long (g L K : Nat) (C : List Int) (w : World) (hr : Rd w (some ⟨g, 0, none⟩) (2 :: (128 + (K : Int)) :: (octs L ++ C))) (hK : cls L = K) (hL : 128 ≤ L) (h1 : L ≤ 1048577) :
    Calls Try.prog 6 #[.slice (some ⟨g, 0, none⟩) (2 + K + L) (6 + L), .int .u8 2] w fun e w' => ∃ c, e = .returned (.tuple #[.slice (some ⟨g, 2 + K, none⟩) L c, .bool true]) ∧ w' = w ∧ L < c := by
  have hK3 : K ≤ 3 := by rcases cls_cases L with h | h | h <;> omega
  have hK1 : 1 ≤ K := by rcases cls_cases L with h | h | h <;> omega
  have c0 := hr.at (i := 0) rfl
  have c1 := hr.at (i := 1) rfl
  have hoct : ∀ j, j < K → w.cell? ⟨g, 2 + j, none⟩ = some (.int .u8 ((sh L (K - 1 - j) % 256 : Nat) : Int)) := by
    intro j hj
    have := octs_get (L := L) (m := K - 1 - j) (n := j) (by omega) (by omega)
    have h2 := hr.at (i := 2 + j) (x := ((sh L (K - 1 - j) % 256 : Nat) : Int)) (by
      rw [Nat.add_comm, List.getElem?_cons_succ, List.getElem?_cons_succ, List.getElem?_append_left (by rw [octs_length]; omega)]
      exact this)
    rwa [Nat.zero_add] at h2
  simp only [Nat.add_zero, Nat.zero_add] at c0 c1
  have hpos := cls_pos L hK (by omega)
  have hr0 : 0 < sh L (K - 1) % 256 := by
    have h2 := (hpos (K - 1) (by omega)).1 (by omega)
    have h3 := (hpos K (by omega)).2 rfl
    rw [show K = K - 1 + 1 by omega, sh_succ] at h3
    omega
  have o0 := hoct 0 (by omega)
  obtain ⟨y0, hy0⟩ : ∃ y, sh L (K - 1 - 0) % 256 = y := ⟨_, rfl⟩
  rw [hy0] at o0
  rw [Nat.sub_zero] at hy0
  rw [hy0] at hr0
  simp only [Nat.add_zero] at o0
  have hand := and127 K hK1 hK3
  have e1 : ¬ (6 + L = 2) := by omega
  have e2 : 2 + K + L - 2 = K + L := by omega
  have e3 : ¬ (6 + L - 2 = K) := by omega
  have e4 : ¬ (128 + (K : Int)) < 128 := by omega
  have e5 : ((K : Int) == 0) = false := by simp; omega
  have e6 : ((y0 : Int) == 0) = false := by simp; omega
  have e7 : K + L - K = L := by omega
  have HO := hide hoct
  have HY := hide hy0
  have HP := hide hpos
  have HK := hide hK
  clear hr hoct hy0 hpos hK hr0
  go_enter Try.func6, Try.ntmps6
  go_wp2
  go_loop [8, 10] (fun n c => ∃ (j x : Nat), j ≤ K ∧ c = .int .i64 j ∧ n = .int .u64 x ∧ Hid (x = sh L (K - j))) (fun _ c => K - (intOf c).toNat)
  case atStart => exact ⟨0, 0, Nat.zero_le _, rfl, rfl, (by rw [Nat.sub_zero]; exact ((HP.out K (Nat.le_refl _)).2 rfl).symm : 0 = sh L (K - 0))⟩
  case round =>
    obtain ⟨j, x, hj, rfl, rfl, HX⟩ := hrel
    by_cases hjK : j < K
    · have hc := HO.out j hjK
      obtain ⟨y, hy⟩ : ∃ y, sh L (K - 1 - j) % 256 = y := ⟨_, rfl⟩
      rw [hy] at hc
      have hx : x = sh L (K - 1 - j) / 256 := by rw [HX.out, ← sh_succ]; congr 1; omega
      have hle := sh_le L (K - 1 - j)
      have hx1 : x < 65536 := by omega
      have hy1 : y ≤ 255 := by omega
      have hor := or256 (x : Int) (y : Int) (by omega) (by omega) (by omega) (by omega)
      have HN : Hid (x * 256 + y = sh L (K - (j + 1))) := (by rw [show K - (j + 1) = K - 1 - j by omega]; omega : x * 256 + y = sh L (K - (j + 1)))
      clear hx hle hy
      go_wp2
      go_round
      case rel => exact ⟨j + 1, x * 256 + y, by omega, by go_num, by go_num, HN⟩
      case measure => simp [intOf]; omega
    · obtain rfl : K = j := by omega
      obtain rfl : x = L := by rw [HX.out, Nat.sub_self, sh0]
      have e8 : ¬ (x : Int) < 128 := by omega
      go_wp2
      go_ret2
      exact ⟨_, rfl, rfl, by omega⟩
end Go.Proofs.Qxb6617679a
