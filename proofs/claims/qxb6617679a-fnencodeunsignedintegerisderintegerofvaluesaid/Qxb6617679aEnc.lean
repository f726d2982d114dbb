import Derived.Test.Qxb6617679aBase
namespace Go.Proofs.Qxb6617679a
open Go.RowKit
set_option linter.unusedVariables false
set_option linter.unusedSimpArgs false

/-- The contents, one behind the other. -/
def cat (ps : List (Option Addr × List Int × Nat)) : List Int := ps.flatMap fun q => q.2.1
/-- The slice of slices at block g0 reads as ps. -/
def Cont (w : World) (g0 : Nat) (ps : List (Option Addr × List Int × Nat)) : Prop :=
  ∀ i q, ps[i]? = some q → w.cell? ⟨g0, i, none⟩ = some (.slice q.1 q.2.1.length q.2.2) ∧ Rd w q.1 q.2.1 ∧ (q.1 = none → q.2.1.length = 0 ∧ q.2.2 = 0)
theorem cat_succ {ps : List (Option Addr × List Int × Nat)} {k : Nat} {q : Option Addr × List Int × Nat} (h : ps[k]? = some q) : cat (ps.take (k + 1)) = cat (ps.take k) ++ q.2.1 := by
  have hk : k < ps.length := (List.getElem?_eq_some_iff.1 h).1
  rw [List.take_succ_eq_append_getElem hk]
  have : ps[k] = q := (List.getElem?_eq_some_iff.1 h).2
  simp [cat, this]
theorem cat_le (ps : List (Option Addr × List Int × Nat)) (k : Nat) : (cat (ps.take k)).length ≤ (cat ps).length := by
  have : cat ps = cat (ps.take k) ++ cat (ps.drop k) := by
    unfold cat
    rw [← List.flatMap_append, List.take_append_drop]
  rw [this, List.length_append]
  omega
theorem cat_all (ps : List (Option Addr × List Int × Nat)) : cat (ps.take ps.length) = cat ps := by rw [List.take_of_length_le (Nat.le_refl _)]

/-- How many octets the length takes: 1, 2 or 3. -/
def cls (L : Nat) : Nat := if L < 256 then 1 else if L < 65536 then 2 else 3
/-- The length's octets, the greatest first. -/
def octs (L : Nat) : List Int := if L < 256 then [(L : Int)] else if L < 65536 then [((L / 256 : Nat) : Int), ((L % 256 : Nat) : Int)] else [((L / 65536 : Nat) : Int), ((L / 256 % 256 : Nat) : Int), ((L % 256 : Nat) : Int)]
def head (L : Nat) : List Int := if L < 128 then [(L : Int)] else ((128 + cls L : Nat) : Int) :: octs L
theorem head_le (L : Nat) : (head L).length ≤ 4 := by
  unfold head octs
  split
  · simp
  · split
    · simp
    · split <;> simp

/-- The length without its j least octets. -/
def sh (L j : Nat) : Nat := L / 256 ^ j
theorem sh_le (L j : Nat) : sh L j ≤ L := Nat.div_le_self _ _
theorem sh_succ (L j : Nat) : sh L (j + 1) = sh L j / 256 := by unfold sh; rw [Nat.pow_succ, Nat.div_div_eq_div_mul]
theorem cls_cases (L : Nat) : (cls L = 1 ∧ L < 256) ∨ (cls L = 2 ∧ 256 ≤ L ∧ L < 65536) ∨ (cls L = 3 ∧ 65536 ≤ L) := by
  unfold cls
  by_cases h1 : L < 256
  · exact .inl ⟨by simp [h1], h1⟩
  · by_cases h2 : L < 65536
    · exact .inr (.inl ⟨by simp [h1, h2], by omega, h2⟩)
    · exact .inr (.inr ⟨by simp [h1, h2], by omega⟩)
theorem sh0 (L : Nat) : sh L 0 = L := by simp [sh]
theorem sh1 (L : Nat) : sh L 1 = L / 256 := by simp [sh]
theorem sh2 (L : Nat) : sh L 2 = L / 65536 := by simp [sh]
theorem sh3 (L : Nat) : sh L 3 = L / 16777216 := by simp [sh]
theorem cls_pos (L : Nat) {K : Nat} (hK : cls L = K) (h : 0 < L ∧ L < 16777216) : ∀ j, j ≤ K → (j < K → 0 < sh L j) ∧ (j = K → sh L j = 0) := by
  intro j hj
  have a0 := sh0 L
  have a1 := sh1 L
  have a2 := sh2 L
  have a3 := sh3 L
  have hj3 : j = 0 ∨ j = 1 ∨ j = 2 ∨ j = 3 := by rcases cls_cases L with h | h | h <;> omega
  rcases cls_cases L with ⟨h1, h2⟩ | ⟨h1, h2, h3⟩ | ⟨h1, h2⟩ <;> rcases hj3 with rfl | rfl | rfl | rfl <;> refine ⟨fun h4 => ?_, fun h4 => ?_⟩ <;> omega

theorem octs_get {L m n : Nat} (h : m + 1 + n = cls L) (h2 : L < 16777216) : (octs L)[n]? = some ((sh L m % 256 : Nat) : Int) := by
  have a0 := sh0 L
  have a1 := sh1 L
  have a2 := sh2 L
  rcases cls_cases L with ⟨h1, h2⟩ | ⟨h1, h2, h3⟩ | ⟨h1, h2⟩
  · have hn : n = 0 ∧ m = 0 := by omega
    obtain ⟨rfl, rfl⟩ := hn
    unfold octs
    rw [if_pos h2, a0]
    simp; omega
  · have hn : (n = 0 ∧ m = 1) ∨ (n = 1 ∧ m = 0) := by omega
    unfold octs
    rw [if_neg (by omega), if_pos h3]
    rcases hn with ⟨rfl, rfl⟩ | ⟨rfl, rfl⟩
    · rw [a1]; simp; omega
    · rw [a0]; simp
  · have hn : (n = 0 ∧ m = 2) ∨ (n = 1 ∧ m = 1) ∨ (n = 2 ∧ m = 0) := by omega
    unfold octs
    rw [if_neg (by omega), if_neg (by omega)]
    rcases hn with ⟨rfl, rfl⟩ | ⟨rfl, rfl⟩ | ⟨rfl, rfl⟩
    · rw [a2]; simp; omega
    · rw [a1]; simp
    · rw [a0]; simp

theorem octs_length (L : Nat) : (octs L).length = cls L := by
  unfold octs cls
  by_cases h1 : L < 256
  · simp [h1]
  · by_cases h2 : L < 65536
    · simp [h1, h2]
    · simp [h1, h2]
theorem octs_own {w : World} {B n cap : Nat} {t x k : Int} {l : List Int} {a : Addr} (hx : l[n]? = some x) (h : w.ownsRow B 5 1 (.slice (some a) (2 + n + 1) cap) (2 + n + 1) (ints (t :: k :: l.take n) ++ [.int .u8 x])) :
    w.ownsRow B 5 1 (.slice (some a) (2 + (n + 1)) cap) (2 + (n + 1)) (ints (t :: k :: l.take (n + 1))) := by
  have hn : n < l.length := (List.getElem?_eq_some_iff.1 hx).1
  have e : l[n] = x := (List.getElem?_eq_some_iff.1 hx).2
  rw [List.take_succ_eq_append_getElem hn, e, ← Nat.add_assoc]
  simpa [ints] using h

set_option maxRecDepth 100000 in
set_option maxHeartbeats 1000000 in
theorem encode_any (t : Int) (g0 L : Nat) (ps : List (Option Addr × List Int × Nat)) (w : World) (ht : 0 ≤ t ∧ t ≤ 255) (hc : Cont w g0 ps) (hL : L = (cat ps).length) (hl : L ≤ 1048577) (hn : ps.length ≤ 16) :
    Calls Try.prog 8 #[.int .u8 t, .slice (some ⟨g0, 0, none⟩) ps.length ps.length] w fun e w' => ∃ c, e = .returned (.slice (some ⟨w.heap.size, 0, none⟩) (1 + (head L).length + L) c) ∧ c = 6 + L ∧ Rd w' (some ⟨w.heap.size, 0, none⟩) (t :: (head L ++ cat ps)) ∧ Below w.heap.size w w' := by
  obtain ⟨i0, hi, hz0, hz1, hz2⟩ := info_parts info5
  have HLL := hide hL
  clear hL
  go_enter Try.func8, Try.ntmps8
  go_wp2
  go_loop [5, 16] (fun t i => ∃ k : Nat, k ≤ ps.length ∧ i = .int .i64 k ∧ t = .int .i64 ((cat (ps.take k)).length : Int)) (fun _ i => ps.length - (intOf i).toNat)
  case atStart => exact ⟨0, Nat.zero_le _, rfl, by simp [cat]⟩
  case round =>
    obtain ⟨k, hk, rfl, rfl⟩ := hrel
    by_cases hkl : k < ps.length
    · obtain ⟨q, hq⟩ : ∃ q, ps[k]? = some q := ⟨_, List.getElem?_eq_getElem hkl⟩
      obtain ⟨h1, h2, h3⟩ := hc k q hq
      have hs := cat_succ hq
      have hle := cat_le ps (k + 1)
      rw [hs, List.length_append] at hle
      rw [← HLL.out] at hle
      have HS := hide hs
      obtain ⟨T, hT⟩ : ∃ T, (cat (ps.take k)).length = T := ⟨_, rfl⟩
      rw [hT] at hle ⊢
      have HT := hide hT
      clear hs hT h2 h3
      go_wp2
      go_round
      case rel => exact ⟨k + 1, by omega, by go_num, by rw [HS.out, List.length_append, HT.out]; go_num⟩
      case measure => simp [intOf]; omega
    · obtain rfl : k = ps.length := by omega
      rw [cat_all, ← HLL.out]
      go_upto_if 33 with (first
        | (at_make; refine wpList_make_own _ rfl _ (.tmp 26) 22 rfl w.heap.size 5 i0 (.int .u8 0) 1 Try.underlying22 hi hz0 hz1 _ _ _ (6 + L) rfl rfl (by omega) (by rw [hz2]; omega) (by unfold maxLen; omega) (Nat.le_refl _) ?_; intro w1 hown1 hgrow1; have hb1 := Below.grown (Below.refl w.heap.size w) hgrow1 (Nat.le_refl _) (by simp); clear hgrow1)
        | (at_builtin; refine wpList_append_fits _ rfl (.tmp 28) (.tmp 30) 22 rfl w.heap.size 5 i0 1 Try.underlying22 hi hz1 w.heap.size 0 (6 + L) [] rfl (hown1.alloc _) ⟨w1.heap.size, 0, none⟩ 1 1 [.int .u8 t] rfl rfl (one_cell _ _ _) (ints_one [t]) (by omega) ?_; intro w2 hown2 hgrow2; have hb2 := Below.grown (hb1.alloc hb1.size (.cells #[.int .u8 t] 5)) hgrow2 (by simp; have := hb1.size; omega) (by simp); simp only [Nat.zero_add, List.nil_append] at hown2; clear hgrow2 hown1 hb1))
      go_cut [8] from 14 (fun v wc => v = .slice (some ⟨w.heap.size, 0, none⟩) (1 + (head L).length) (6 + L) ∧ wc.ownsRow w.heap.size 5 1 (.slice (some ⟨w.heap.size, 0, none⟩) (1 + (head L).length) (6 + L)) (1 + (head L).length) (ints (t :: head L)) ∧ Below w.heap.size w wc)
      case rest =>
        clear hown2 hb2
        obtain ⟨rfl, hown, hbel⟩ := hcut
        have hh := head_le L
        obtain ⟨H, hH⟩ : ∃ H, 1 + (head L).length = H := ⟨_, rfl⟩
        rw [hH] at hown ⊢
        have HH := hide hH
        have hH5 : H ≤ 5 := by omega
        clear hH
        go_wp2
        go_loopw [8, 68] (fun v i wr => ∃ (k T : Nat), k ≤ ps.length ∧ i = .int .i64 k ∧ v = .slice (some ⟨w.heap.size, 0, none⟩) (H + T) (6 + L) ∧ Hid (T = (cat (ps.take k)).length) ∧ wr.ownsRow w.heap.size 5 1 (.slice (some ⟨w.heap.size, 0, none⟩) (H + T) (6 + L)) (H + T) (ints (t :: (head L ++ cat (ps.take k)))) ∧ Below w.heap.size w wr) (fun _ i _ => ps.length - (intOf i).toNat)
        case atStart => exact ⟨0, 0, Nat.zero_le _, rfl, rfl, by simp [Hid, cat], by simpa [cat] using hown, hbel⟩
        case round =>
          clear hown hbel
          obtain ⟨k, T, hk, rfl, rfl, HT, hown, hbel⟩ := hrel
          by_cases hkl : k < ps.length
          · obtain ⟨q, hq⟩ : ∃ q, ps[k]? = some q := ⟨_, List.getElem?_eq_getElem hkl⟩
            obtain ⟨h1, h2, h3⟩ := hc k q hq
            have hs := cat_succ hq
            have hle := cat_le ps (k + 1)
            rw [hs, List.length_append, ← HLL.out, ← HT.out] at hle
            have HS := hide hs
            have h1' := (hbel.cell (p := ⟨g0, k, none⟩) (World.block_lt_of_cell? w _ h1)).trans h1
            have h2' := h2.below hbel (Nat.le_refl _)
            obtain ⟨qa, qz, qc⟩ := q
            simp only at h1' h2' h3 hle HS
            clear hs h1 h2 hq
            go_wp2_with (at_builtin; refine wpList_append_fits_any _ rfl (.tmp 72) (.tmp 73) 22 rfl w.heap.size 5 i0 1 Try.underlying22 hi hz1 w.heap.size (H + T) (6 + L) (ints (t :: (head L ++ cat (ps.take k)))) rfl hown qa qz.length qc (ints qz) rfl (by rw [ints_length, Nat.mul_one]) h3 h2'.news (ints_one _) (by omega) ?_; intro w4 hown4 hgrow4; have hb4 := Below.grown hbel hgrow4 hbel.size (by simp); clear hgrow4)
            go_roundw
            case rel => exact ⟨k + 1, T + qz.length, by omega, by go_num, by rw [Nat.add_assoc], (by rw [HS.out, List.length_append, ← HT.out] : T + qz.length = (cat (ps.take (k + 1))).length), by rw [HS.out, ← Nat.add_assoc]; rw [ints_append] at hown4; simpa using hown4, hb4⟩
            case measure => simp [intOf]; omega
          · obtain rfl : k = ps.length := by omega
            rw [cat_all] at hown HT
            obtain rfl : T = L := by rw [HT.out, HLL.out]
            go_wp2
            go_ret
            exact ⟨6 + T, by rw [HH.out]; rfl, rfl, Rd.owned hown, hbel⟩
      case first =>
        by_cases hs : L < 128
        · have hs' : (L : Int) < 128 := by omega
          go_wp2_with (at_builtin; refine wpList_append_fits _ rfl (.tmp 34) (.tmp 37) 22 rfl w.heap.size 5 i0 1 Try.underlying22 hi hz1 w.heap.size 1 (6 + L) [.int .u8 t] rfl (hown2.alloc _) ⟨w2.heap.size, 0, none⟩ 1 1 [.int .u8 (L : Int)] rfl rfl (one_cell _ _ _) (ints_one [(L : Int)]) (by omega) ?_; intro w3 hown3 hgrow3; have hb3 := Below.grown (hb2.alloc hb2.size (.cells #[.int .u8 (L : Int)] 5)) hgrow3 (by simp; have := hb2.size; omega) (by simp); clear hgrow3)
          have hd : head L = [(L : Int)] := by simp [head, hs]
          go_meet
          case rel => exact ⟨by rw [hd]; rfl, by rw [hd]; exact hown3, hb3⟩
        · have hs' : ¬ (L : Int) < 128 := by omega
          have hc3 : cls L ≤ 3 := by unfold cls; split <;> (try split) <;> omega
          have hc1 : 1 ≤ cls L := by unfold cls; split <;> (try split) <;> omega
          obtain ⟨K, hK⟩ : ∃ K, cls L = K := ⟨_, rfl⟩
          rw [hK] at hc3 hc1
          have HK := hide hK
          have hpos := cls_pos L hK (by omega)
          clear hK
          go_wp2
          go_loop [9, 10] (fun c l => ∃ (j x : Nat), j ≤ K ∧ c = .int .i64 j ∧ l = .int .i64 x ∧ Hid (x = sh L j)) (fun c _ => K - (intOf c).toNat)
          case atStart => exact ⟨0, L, Nat.zero_le _, rfl, rfl, (by simp [sh] : L = sh L 0)⟩
          case round =>
            obtain ⟨j, x, hj, rfl, rfl, HX⟩ := hrel
            have hxL : x ≤ L := by rw [HX.out]; exact sh_le L j
            by_cases hjK : j < K
            · have hx0 : (0 : Int) < x := by have := (hpos j hj).1 hjK; rw [← HX.out] at this; omega
              go_wp2
              go_round
              case rel => exact ⟨j + 1, x / 256, by omega, by go_num, by go_num, (by rw [sh_succ, ← HX.out] : x / 256 = sh L (j + 1))⟩
              case measure => simp [intOf]; omega
            · obtain rfl : K = j := by omega
              have hx0 : ¬ (0 : Int) < x := by have := (hpos K hj).2 rfl; rw [← HX.out] at this; omega
              have h128 : bits BinOp.or IntKind.u8 128 (K : Int) = 128 + (K : Int) := u8_or128 _ (by omega) (by omega)
              clear hpos
              go_wp2_with (at_builtin; refine wpList_append_fits _ rfl (.tmp 46) (.tmp 50) 22 rfl w.heap.size 5 i0 1 Try.underlying22 hi hz1 w.heap.size 1 (6 + L) [.int .u8 t] rfl (hown2.alloc _) ⟨w2.heap.size, 0, none⟩ 1 1 [.int .u8 (128 + (K : Int))] rfl rfl (one_cell _ _ _) (ints_one [(128 + (K : Int))]) (by omega) ?_; intro w3 hown3 hgrow3; have hb3 := Below.grown (hb2.alloc hb2.size (.cells #[.int .u8 (128 + (K : Int))] 5)) hgrow3 (by simp; have := hb2.size; omega) (by simp); clear hgrow3)
              go_loopw [8, 11] (fun v i wr => ∃ m n : Nat, m ≤ K ∧ m + n ≤ 3 ∧ Hid (m + n = K) ∧ i = .int .i64 ((m : Int) - 1) ∧ v = .slice (some ⟨w.heap.size, 0, none⟩) (2 + n) (6 + L) ∧ wr.ownsRow w.heap.size 5 1 (.slice (some ⟨w.heap.size, 0, none⟩) (2 + n) (6 + L)) (2 + n) (ints (t :: (128 + (K : Int)) :: (octs L).take n)) ∧ Below w.heap.size w wr) (fun _ i _ => (intOf i + 1).toNat)
              case atStart => exact ⟨K, 0, Nat.le_refl _, by omega, rfl, rfl, rfl, hown3, hb3⟩
              case round =>
                clear hown3 hb3 hown2 hb2 h128
                obtain ⟨m, n, hmK, hm3, HMN, rfl, rfl, hown, hbel⟩ := hrel
                cases m with
                | zero =>
                  have hnK : n = K := by have := HMN.out; omega
                  have hd : head L = (128 + (K : Int)) :: octs L := by
                    have h1 : ¬ L < 128 := by omega
                    simp [head, h1, HK.out]
                  have hol : (octs L).length = n := by rw [octs_length, HK.out, hnK]
                  have HD := hide hd
                  have HO := hide hol
                  clear hd hol
                  go_wp2
                  go_meet
                  case rel => exact ⟨by rw [HD.out, List.length_cons, HO.out]; congr 1; omega, by rw [HD.out, List.length_cons, HO.out]; rw [List.take_of_length_le (by rw [HO.out]; exact Nat.le_refl _), show 2 + n = 1 + (n + 1) by omega] at hown; exact hown, hbel⟩
                | succ m =>
                  have hg := octs_get (L := L) (m := m) (n := n) (by rw [HK.out, ← HMN.out]) (by omega)
                  rw [show ((m + 1 : Nat) : Int) - 1 = (m : Int) by omega]
                  have hm' : m = 0 ∨ m = 1 ∨ m = 2 := by omega
                  rcases hm' with rfl | rfl | rfl
                  · have hg' : (octs L)[n]? = some ((L : Int) % 256) := by rw [hg, sh0]; first | rfl | (congr 1; omega)
                    go_wp2_with (at_builtin; refine wpList_append_fits _ rfl (.tmp 58) (.tmp 64) 22 rfl w.heap.size 5 i0 1 Try.underlying22 hi hz1 w.heap.size (2 + n) (6 + L) (ints (t :: (128 + (K : Int)) :: (octs L).take n)) rfl (hown.alloc _) ⟨wr.heap.size, 0, none⟩ 1 1 [.int .u8 ((L : Int) % 256)] rfl rfl (one_cell _ _ _) (ints_one [((L : Int) % 256)]) (by omega) ?_; intro w4 hown4 hgrow4; have hb4 := Below.grown (hbel.alloc hbel.size (.cells #[.int .u8 ((L : Int) % 256)] 5)) hgrow4 (by simp; have := hbel.size; omega) (by simp); clear hgrow4)
                    go_roundw
                    case rel => exact ⟨0, n + 1, by omega, by omega, (show 0 + (n + 1) = K by have := HMN.out; omega), rfl, rfl, octs_own hg' hown4, hb4⟩
                    case measure => simp [intOf]
                  · have hg' : (octs L)[n]? = some ((L : Int) / 256 % 256) := by rw [hg, sh1]; first | rfl | (congr 1; omega)
                    go_wp2_with (at_builtin; refine wpList_append_fits _ rfl (.tmp 58) (.tmp 64) 22 rfl w.heap.size 5 i0 1 Try.underlying22 hi hz1 w.heap.size (2 + n) (6 + L) (ints (t :: (128 + (K : Int)) :: (octs L).take n)) rfl (hown.alloc _) ⟨wr.heap.size, 0, none⟩ 1 1 [.int .u8 ((L : Int) / 256 % 256)] rfl rfl (one_cell _ _ _) (ints_one [((L : Int) / 256 % 256)]) (by omega) ?_; intro w4 hown4 hgrow4; have hb4 := Below.grown (hbel.alloc hbel.size (.cells #[.int .u8 ((L : Int) / 256 % 256)] 5)) hgrow4 (by simp; have := hbel.size; omega) (by simp); clear hgrow4)
                    go_roundw
                    case rel => exact ⟨1, n + 1, by omega, by omega, (show 1 + (n + 1) = K by have := HMN.out; omega), rfl, rfl, octs_own hg' hown4, hb4⟩
                    case measure => simp [intOf]
                  · have hg' : (octs L)[n]? = some ((L : Int) / 65536) := by rw [hg, sh2]; first | rfl | (congr 1; omega)
                    go_wp2_with (at_builtin; refine wpList_append_fits _ rfl (.tmp 58) (.tmp 64) 22 rfl w.heap.size 5 i0 1 Try.underlying22 hi hz1 w.heap.size (2 + n) (6 + L) (ints (t :: (128 + (K : Int)) :: (octs L).take n)) rfl (hown.alloc _) ⟨wr.heap.size, 0, none⟩ 1 1 [.int .u8 ((L : Int) / 65536)] rfl rfl (one_cell _ _ _) (ints_one [((L : Int) / 65536)]) (by omega) ?_; intro w4 hown4 hgrow4; have hb4 := Below.grown (hbel.alloc hbel.size (.cells #[.int .u8 ((L : Int) / 65536)] 5)) hgrow4 (by simp; have := hbel.size; omega) (by simp); clear hgrow4)
                    go_roundw
                    case rel => exact ⟨2, n + 1, by omega, by omega, (show 2 + (n + 1) = K by have := HMN.out; omega), rfl, rfl, octs_own hg' hown4, hb4⟩
                    case measure => simp [intOf]
end Go.Proofs.Qxb6617679a
