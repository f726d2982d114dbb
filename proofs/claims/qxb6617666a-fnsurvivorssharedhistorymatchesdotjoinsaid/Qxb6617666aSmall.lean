import Derived.Test.Qxb6617666aBase
namespace Go.Proofs.Qxb6617666a
open Go.RowKit
set_option linter.unusedVariables false
set_option linter.unusedSimpArgs false

theorem len_any (u : Option Addr) (l : List ByteArray) (w : World) (h : Lst w u l) :
    Calls Try.prog 16 #[.pointer u] w fun e w' => e = .returned (.int .i64 (l.length : Int)) ∧ w' = w := by
  by_cases hl : 0 < l.length
  · obtain ⟨b, o, v, rfl, _, _, h3, _, _⟩ := h.head hl
    clear h
    go_enter Try.func16, Try.ntmps16
    go_wp2
    go_ret
    exact ⟨rfl, rfl⟩
  · obtain rfl : l = [] := List.eq_nil_of_length_eq_zero (by omega)
    obtain rfl : u = none := h
    go_enter Try.func16, Try.ntmps16
    go_wp2
    go_ret
    exact ⟨rfl, rfl⟩

theorem run_max_str {P : Program} (ts : Array TypeId) (t : TypeId) (x y : ByteArray) (w : World) : (Builtin.max_ ts t #[.string x, .string y]).run P w = .ok (.string (smax x y)) w := by
  unfold smax
  cases h : Op.bytesLess x.toList y.toList <;> simp [Builtin.max_, Builtin.max2, Op.stringOp, asBool, h]

theorem surv_any (a b : ByteArray) (w : World) :
    Calls Try.prog 18 #[.string a, .string b] w fun e w' => e = .returned (.string (smax a b)) ∧ w' = w := by
  have hm := fun ts t w => run_max_str (P := Try.prog) ts t a b w
  go_enter Try.func18, Try.ntmps18
  go_wp2
  go_ret
  exact ⟨rfl, rfl⟩

theorem ret_int {k : IntKind} {a b : Int} (h : a = b) : Ending.returned (.int k a) = .returned (.int k b) := by rw [h]

theorem count_any (u : Option Addr) (l : List ByteArray) (n f : Int) (m : Nat) (w : World) (h : Lst w u l) (h0 : 0 ≤ f) (hf : f ≤ n) (hn : n ≤ 18446744073709551615) (hl : l.length ≤ 1099511627776) (hm : m = min (n - f).toNat l.length) :
    Calls Try.prog 17 #[.pointer u, .int .u64 n, .int .u64 f] w fun e w' => e = .returned (.int .i64 (m : Int)) ∧ w' = w := by
  have H := hide (len_any u l w h)
  have HM := hide hm
  clear h hm
  by_cases he : n ≤ f
  · go_enter Try.func17, Try.ntmps17
    go_wp2
    go_ret
    exact ⟨ret_int (by have := HM.out; omega), rfl⟩
  · by_cases hlt : (l.length : Int) < n - f
    all_goals
      go_enter Try.func17, Try.ntmps17
      go_wp2_with (go_at_call 16; refine Calls.mono (Hid.out H) ?_; rintro e w' ⟨rfl, hw⟩; subst w')
      go_ret
      exact ⟨ret_int (by have := HM.out; omega), rfl⟩

/-- 'zzAt' where the value is there. -/
theorem at_yes (a : Option Addr) (l : List ByteArray) (cap : Nat) (top d : Int) (x : ByteArray) (w : World) (h : Rd w a l) (hl : l.length ≤ 1099511627776) (h0 : 0 ≤ d) (hd : d ≤ top) (ht : top ≤ 18446744073709551615) (hx : l[(top - d).toNat]? = some x) :
    Calls Try.prog 15 #[.slice a l.length cap, .int .u64 top, .int .u64 d, .string x] w fun e w' => e = .returned (.bool true) ∧ w' = w := by
  obtain ⟨b, o, rfl, hc⟩ := h _ _ hx
  have hlt : (top - d).toNat < l.length := (List.getElem?_eq_some_iff.1 hx).1
  obtain ⟨k, hk⟩ : ∃ k : Nat, (top - d).toNat = k := ⟨_, rfl⟩
  have hk2 : top - d = (k : Int) := by omega
  rw [hk] at hc hlt
  clear hx hk h
  go_enter Try.func15, Try.ntmps15
  go_wp2
  go_ret
  exact ⟨rfl, rfl⟩

end Go.Proofs.Qxb6617666a
