import Derived.Test.Qxb6626875aMem
import Derived.Deep.QuietTactic
import Derived.BigQuiet
namespace Go.Proofs.Qxb6626875a
open Go.RowKit

theorem okB_true {ps : List (List Int)} (h : ps.length + tot ps ≤ 1048576) : okB ps = true := by simp [okB, h]
theorem okB_false {ps : List (List Int)} (h : 1048576 < ps.length + tot ps) : okB ps = false := by simp [okB]; omega
theorem okB_false_at {ps : List (List Int)} {k : Nat} (hk : k < ps.length) (h : 1048576 < ps.length + tot (ps.take k) + (part ps k).length) : okB ps = false := by
  have h1 := tot_take_succ ps k hk
  have h2 := tot_take_le ps (k + 1)
  exact okB_false (by omega)
theorem tot_all (ps : List (List Int)) : tot (ps.take ps.length) = tot ps := by simp
theorem ret_bool {a b : Bool} (h : a = b) : Ending.returned (.bool a) = .returned (.bool b) := by rw [h]

set_option maxHeartbeats 400000 in
theorem bytes5 (w : World) (a : Option Addr) (ps : List (List Int)) (c : Nat) (x y : Int) (hl : ps.length ≤ maxLen) (hP : Pt w a ps) :
    Calls Try.prog 5 #[.slice a ps.length c, .int .i64 x, .int .i64 y] w fun e w' => e = .returned (.bool (okB ps)) ∧ w' = w := by
  unfold maxLen at hl
  by_cases h1 : 1048576 < ps.length
  · have hl2 : (1048576 : Int) < (ps.length : Int) := by omega
    go_enter Try.func5, Try.ntmps5
    go_wp2
    go_ret
    exact ⟨ret_bool (okB_false (by omega)).symm, rfl⟩
  · have hl2 : (ps.length : Int) ≤ (1048576 : Int) := by omega
    go_enter Try.func5, Try.ntmps5
    go_wp2
    go_loop [7, 8] (fun n i => ∃ k : Nat, k ≤ ps.length ∧ i = .int .i64 k ∧ n = .int .i64 (ps.length + tot (ps.take k) : Nat) ∧ ps.length + tot (ps.take k) ≤ 1048576) (fun _ i => ps.length - (intOf i).toNat)
    case atStart => exact ⟨0, Nat.zero_le _, rfl, by simp [tot], by simp [tot]; omega⟩
    case round =>
      obtain ⟨k, hk, rfl, rfl, hb⟩ := hrel
      by_cases hlt : k < ps.length
      · have HP : Hid (Pt w a ps) := hP
        rcases hP with h | ⟨b, o, rfl, hc⟩
        · simp [h] at hlt
        obtain ⟨A, C, hcell, hlc, hcm, _, hb⟩ := hc k hlt
        unfold maxLen at hcm
        clear hc hb
        have HT : Hid (tot (ps.take (k + 1)) = tot (ps.take k) + (part ps k).length) := tot_take_succ ps k hlt
        have hkl : (k : Int) < (ps.length : Int) := by omega
        by_cases hbig : 1048576 < ps.length + tot (ps.take k) + (part ps k).length
        · have ho : okB ps = false := okB_false_at hlt hbig
          have HO : Hid (okB ps = false) := ho
          clear ho
          by_cases hbig2 : 1048576 < (part ps k).length
          · have hb2 : (1048576 : Int) < ((part ps k).length : Int) := by omega
            go_wp2
            go_ret
            exact ⟨ret_bool HO.out.symm, rfl⟩
          · go_wp2
            go_ret
            exact ⟨ret_bool HO.out.symm, rfl⟩
        · go_wp2
          go_round
          case rel => exact ⟨k + 1, by omega, by go_num, by have := HT.out; go_num, by have := HT.out; omega⟩
          case measure => simp [intOf]; omega
      · have hke : k = ps.length := by omega
        have ho : okB ps = true := by rw [hke, tot_all] at hb; exact okB_true hb
        have HO : Hid (okB ps = true) := ho
        clear ho hke
        go_wp2
        go_ret
        exact ⟨ret_bool HO.out.symm, rfl⟩
end Go.Proofs.Qxb6626875a
