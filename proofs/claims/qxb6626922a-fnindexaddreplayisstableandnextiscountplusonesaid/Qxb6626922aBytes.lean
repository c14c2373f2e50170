import Derived.Test.Qxb6626922aAdd
import Derived.Deep.CutBlock
namespace Go.Proofs.Qxb6626922a
open Go.RowKit Go.Maps

def okN (n : Nat) : Bool := decide (n + 32 * n ≤ 1048576)
theorem okN_true {n : Nat} (h : n + 32 * n ≤ 1048576) : okN n = true := by simp [okN]; omega
theorem okN_false {n : Nat} (h : 1048576 < n + 32 * n) : okN n = false := by simp [okN]; omega
theorem ret_bool {a b : Bool} (h : a = b) : Ending.returned (.bool a) = .returned (.bool b) := by rw [h]

set_option maxHeartbeats 400000 in
theorem bytes5 (w : World) (a : Option Addr) (n c : Nat) (hl : n ≤ maxLen) :
    Calls Try.prog 5 #[.slice a n c] w fun e w' => e = .returned (.bool (okN n)) ∧ w' = w := by
  unfold maxLen at hl
  by_cases h1 : 1048576 < n
  · have hl2 : (1048576 : Int) < (n : Int) := by omega
    go_enter Try.func5, Try.ntmps5
    go_wp2
    go_ret
    exact ⟨ret_bool (okN_false (by omega)).symm, rfl⟩
  · have hl2 : (n : Int) ≤ (1048576 : Int) := by omega
    go_enter Try.func5, Try.ntmps5
    go_wp2
    go_loop [3, 4] (fun z i => ∃ k m : Nat, k ≤ n ∧ i = .int .i64 k ∧ z = .int .i64 m ∧ Hid (m = n + 32 * k) ∧ m ≤ 1048576) (fun _ i => n - (intOf i).toNat)
    case atStart => exact ⟨0, n, Nat.zero_le _, rfl, rfl, rfl, by omega⟩
    case round =>
      obtain ⟨k, m, hk, rfl, rfl, HM, hb⟩ := hrel
      by_cases hlt : k < n
      · have hkl : (k : Int) < (n : Int) := by omega
        go_upto_block 1 with (fail)
        go_step
        go_step
        refine wp_cond_false rfl ?_
        go_upto_if 23 with (fail)
        by_cases hbig : 1048544 < m
        · refine wp_cond_true (congrArg Value.bool (decide_eq_true (by omega))) ?_
          go_wp2
          go_ret
          exact ⟨ret_bool (okN_false (by have := HM.out; omega)).symm, rfl⟩
        · refine wp_cond_false (congrArg Value.bool (decide_eq_false (by omega))) ?_
          go_wp2
          go_round
          case rel => exact ⟨k + 1, m + 32, by omega, by go_num, by go_num, by have := HM.out; show _ = _; omega, by omega⟩
          case measure => simp [intOf]; omega
      · go_wp2
        go_ret
        exact ⟨ret_bool (okN_true (by have := HM.out; omega)).symm, rfl⟩
set_option maxHeartbeats 400000 in
theorem bytes8 (w : World) (a : Option Addr) (n c : Nat) (d : List Value) (hl : n ≤ maxLen) :
    Calls Try.prog 8 #[.slice a n c, dv d] w fun e w' => e = .returned (.bool (okN n)) ∧ Below w.heap.size w w' := by
  unfold maxLen at hl
  unfold dv
  by_cases h1 : 1048576 < n
  · have hl2 : (1048576 : Int) < (n : Int) := by omega
    go_enter Try.func8, Try.ntmps8
    go_wp2
    go_ret
    exact ⟨ret_bool (okN_false (by omega)).symm, (Below.refl _ _).alloc (Nat.le_refl _) _⟩
  · have hl2 : (n : Int) ≤ (1048576 : Int) := by omega
    go_enter Try.func8, Try.ntmps8
    go_wp2
    go_loop [5, 6] (fun z i => ∃ k m : Nat, k ≤ n ∧ i = .int .i64 k ∧ z = .int .i64 m ∧ Hid (m = n + 32 * k) ∧ m ≤ 1048576) (fun _ i => n - (intOf i).toNat)
    case atStart => exact ⟨0, n, Nat.zero_le _, rfl, rfl, rfl, by omega⟩
    case round =>
      obtain ⟨k, m, hk, rfl, rfl, HM, hb⟩ := hrel
      by_cases hlt : k < n
      · have hkl : (k : Int) < (n : Int) := by omega
        go_upto_block 1 with (fail)
        go_step
        go_step
        refine wp_cond_false rfl ?_
        go_upto_if 25 with (fail)
        by_cases hbig : 1048544 < m
        · refine wp_cond_true (congrArg Value.bool (decide_eq_true (by omega))) ?_
          go_wp2
          go_ret
          exact ⟨ret_bool (okN_false (by have := HM.out; omega)).symm, (Below.refl _ _).alloc (Nat.le_refl _) _⟩
        · refine wp_cond_false (congrArg Value.bool (decide_eq_false (by omega))) ?_
          go_wp2
          go_round
          case rel => exact ⟨k + 1, m + 32, by omega, by go_num, by go_num, by have := HM.out; show _ = _; omega, by omega⟩
          case measure => simp [intOf]; omega
      · go_wp2
        go_ret
        exact ⟨ret_bool (okN_true (by have := HM.out; omega)).symm, (Below.refl _ _).alloc (Nat.le_refl _) _⟩
end Go.Proofs.Qxb6626922a
