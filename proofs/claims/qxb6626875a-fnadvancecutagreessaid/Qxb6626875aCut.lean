import Derived.Test.Qxb6626875aLaws
import Derived.Test.Qxb6626875aWalkA
namespace Go.Proofs.Qxb6626875a
open Go.RowKit

set_option maxHeartbeats 400000 in
theorem bytes13 (w : World) (a : Option Addr) (ps : List (List Int)) (c : Nat) (x y : Int) (hl : ps.length ≤ maxLen) (hP : Pt w a ps) :
    Calls Try.prog 13 #[.slice a ps.length c, .int .i64 x, .int .i64 y] w fun e w' => e = .returned (.bool (okB ps)) ∧ w' = w := by
  unfold maxLen at hl
  by_cases h1 : 1048576 < ps.length
  · have hl2 : (1048576 : Int) < (ps.length : Int) := by omega
    go_enter Try.func13, Try.ntmps13
    go_wp2
    go_ret
    exact ⟨ret_bool (okB_false (by omega)).symm, rfl⟩
  · have hl2 : (ps.length : Int) ≤ (1048576 : Int) := by omega
    go_enter Try.func13, Try.ntmps13
    go_wp2
    go_loop [7, 8] (fun n i => ∃ k : Nat, k ≤ ps.length ∧ i = .int .i64 k ∧ n = .int .i64 (ps.length + tot (ps.take k) : Nat) ∧ ps.length + tot (ps.take k) ≤ 1048576) (fun _ i => ps.length - (intOf i).toNat)
    case atStart => exact ⟨0, Nat.zero_le _, rfl, by simp [tot], by simp [tot]; omega⟩
    case round =>
      obtain ⟨k, hk, rfl, rfl, hb⟩ := hrel
      by_cases hlt : k < ps.length
      · have HP : Hid (Pt w a ps) := hP
        rcases hP with h | ⟨b, o, rfl, hc⟩
        · simp [h] at hlt
        obtain ⟨A, C, hcell, hlc, hcm, _, hb⟩ := hc k hlt
        unfold maxLen at hcm
        clear hc hb
        have HT : Hid (tot (ps.take (k + 1)) = tot (ps.take k) + (part ps k).length) := tot_take_succ ps k hlt
        have hkl : (k : Int) < (ps.length : Int) := by omega
        by_cases hbig : 1048576 < ps.length + tot (ps.take k) + (part ps k).length
        · have ho : okB ps = false := okB_false_at hlt hbig
          have HO : Hid (okB ps = false) := ho
          clear ho
          by_cases hbig2 : 1048576 < (part ps k).length
          · have hb2 : (1048576 : Int) < ((part ps k).length : Int) := by omega
            go_wp2
            go_ret
            exact ⟨ret_bool HO.out.symm, rfl⟩
          · go_wp2
            go_ret
            exact ⟨ret_bool HO.out.symm, rfl⟩
        · go_wp2
          go_round
          case rel => exact ⟨k + 1, by omega, by go_num, by have := HT.out; go_num, by have := HT.out; omega⟩
          case measure => simp [intOf]; omega
      · have hke : k = ps.length := by omega
        have ho : okB ps = true := by rw [hke, tot_all] at hb; exact okB_true hb
        have HO : Hid (okB ps = true) := ho
        clear ho hke
        go_wp2
        go_ret
        exact ⟨ret_bool HO.out.symm, rfl⟩
set_option maxHeartbeats 800000 in
theorem cut_big (w : World) (a0 : Option Addr) (ps : List (List Int)) (c : Nat) (x y : Int) (hl : ps.length ≤ maxLen) (hP : Pt w a0 ps) (hok : okB ps = false) :
    Calls Try.prog 4 #[.slice a0 ps.length c, .int .i64 x, .int .i64 y] w fun e w' => e = .returned (.bool true) ∧ Below w.heap.size w w' := by
  have HC := bytes13 w a0 ps c x y hl hP
  rw [hok] at HC
  have HH : Hid (Calls Try.prog 13 #[.slice a0 ps.length c, .int .i64 x, .int .i64 y] w fun e w' => e = .returned (.bool false) ∧ w' = w) := HC
  clear HC hok hP
  go_enter Try.func4, Try.ntmps4
  go_wp2_with fail
  refine HH.out.mono ?_
  rintro e w' ⟨rfl, rfl⟩
  go_wp2
  go_ret
  exact ⟨rfl, Below.refl _ _⟩


theorem clone7n (w : World) (a : Option Addr) (ps : List (List Int)) (m c : Nat) (hm : ps.length = m) (hn : a = none → c = 0) (hl : ps.length + tot ps ≤ 1048576) (hP : Pt w a ps) :
    Calls Try.prog 7 #[.slice a m c] w fun e w' => ∃ a' c', e = .returned (.slice a' ps.length c') ∧ ps.length ≤ c' ∧ c' ≤ maxLen ∧ (a' = none → c' = 0) ∧ PtIn w' w.heap.size a' ps ∧ (ps = [] ∨ ∀ o, w'.frozen? ⟨w.heap.size, o, none⟩ = false) ∧ Below w.heap.size w w' := by
  subst hm; exact clone7 w a ps c hn hl hP

set_option maxHeartbeats 800000 in
theorem cut_size (w : World) (a0 : Option Addr) (ps : List (List Int)) (c : Nat) (x y : Int) (hok : ps.length + tot ps ≤ 1048576) (hP : Pt w a0 ps) (hsz : szB ps = false ∨ (szB ps = true ∧ (x < 0 ∨ ps.length < x))) :
    Calls Try.prog 4 #[.slice a0 ps.length c, .int .i64 x, .int .i64 y] w fun e w' => e = .returned (.bool true) ∧ Below w.heap.size w w' := by
  have HC := bytes13 w a0 ps c x y (by unfold maxLen; omega) hP
  rw [okB_true hok] at HC
  have HH : Hid (Calls Try.prog 13 #[.slice a0 ps.length c, .int .i64 x, .int .i64 y] w fun e w' => e = .returned (.bool true) ∧ w' = w) := HC
  have HS := size6 w a0 ps c hok hP
  clear HC hP
  rcases hsz with hsz | ⟨hsz, hxy⟩
  · have hN : szN ps = 0 := by simp [szN, hsz]
    rw [hN, hsz] at HS
    have HS' : Hid (Calls Try.prog 6 #[.slice a0 ps.length c] w fun e w' => e = .returned (.tuple #[.int .i64 0, .bool false]) ∧ w' = w) := HS
    clear HS hN hsz
    go_enter Try.func4, Try.ntmps4
    go_wp2_with fail
    refine HH.out.mono ?_
    rintro e w' ⟨rfl, rfl⟩
    go_wp2_with fail
    refine HS'.out.mono ?_
    rintro e w' ⟨rfl, rfl⟩
    go_wp2
    go_ret
    exact ⟨rfl, Below.refl _ _⟩
  · have hN : szN ps = tot ps := by simp [szN, hsz]
    rw [hN, hsz] at HS
    have HS' : Hid (Calls Try.prog 6 #[.slice a0 ps.length c] w fun e w' => e = .returned (.tuple #[.int .i64 (tot ps), .bool true]) ∧ w' = w) := HS
    clear HS hN hsz
    by_cases hx : x < 0
    · clear hxy
      go_enter Try.func4, Try.ntmps4
      go_wp2_with fail
      refine HH.out.mono ?_
      rintro e w' ⟨rfl, rfl⟩
      go_wp2_with fail
      refine HS'.out.mono ?_
      rintro e w' ⟨rfl, rfl⟩
      go_wp2
      go_ret
      exact ⟨rfl, Below.refl _ _⟩
    have hx' : 0 ≤ x := by omega
    have ht : (ps.length : Int) < x := by omega
    clear hx hxy
    go_enter Try.func4, Try.ntmps4
    go_wp2_with fail
    refine HH.out.mono ?_
    rintro e w' ⟨rfl, rfl⟩
    go_wp2_with fail
    refine HS'.out.mono ?_
    rintro e w' ⟨rfl, rfl⟩
    go_wp2
    go_ret
    exact ⟨rfl, Below.refl _ _⟩
end Go.Proofs.Qxb6626875a
