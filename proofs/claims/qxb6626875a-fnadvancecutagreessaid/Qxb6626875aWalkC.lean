import Derived.Test.Qxb6626875aWalkB
namespace Go.Proofs.Qxb6626875a
open Go.RowKit

theorem ret_tup {a b : Int} {x y : Bool} (h : a = b) (h2 : x = y) : Ending.returned (.tuple #[.int .i64 a, .bool x]) = .returned (.tuple #[.int .i64 b, .bool y]) := by rw [h, h2]
theorem szB_false_at {ps : List (List Int)} {k : Nat} (hk : k < ps.length) (h : 1048576 < 8 * ps.length + tot (ps.take k) + (part ps k).length) : szB ps = false := by
  have h1 := tot_take_succ ps k hk
  have h2 := tot_take_le ps (k + 1)
  simp [szB]; omega
def szN (ps : List (List Int)) : Int := if szB ps then tot ps else 0

set_option maxHeartbeats 400000 in
theorem size6 (w : World) (a : Option Addr) (ps : List (List Int)) (c : Nat) (hok : ps.length + tot ps ≤ 1048576) (hP : Pt w a ps) :
    Calls Try.prog 6 #[.slice a ps.length c] w fun e w' => e = .returned (.tuple #[.int .i64 (szN ps), .bool (szB ps)]) ∧ w' = w := by
  by_cases h1 : 65536 < ps.length
  · have hl2 : (65536 : Int) < (ps.length : Int) := by omega
    have ho : szB ps = false := by simp [szB]; omega
    have hn : szN ps = 0 := by simp [szN, ho]
    have HO : Hid (szB ps = false) := ho
    have HN : Hid (szN ps = 0) := hn
    clear ho hn
    go_enter Try.func6, Try.ntmps6
    go_wp2
    go_ret2
    exact ⟨ret_tup HN.out.symm HO.out.symm, rfl⟩
  · have hl2 : (ps.length : Int) ≤ (65536 : Int) := by omega
    go_enter Try.func6, Try.ntmps6
    go_wp2
    go_loop [5, 6] (fun n i => ∃ k : Nat, k ≤ ps.length ∧ i = .int .i64 k ∧ n = .int .i64 (tot (ps.take k) : Nat) ∧ (k = 0 ∨ 8 * ps.length + tot (ps.take k) ≤ 1048576)) (fun _ i => ps.length - (intOf i).toNat)
    case atStart => exact ⟨0, Nat.zero_le _, rfl, by simp [tot], .inl rfl⟩
    case round =>
      obtain ⟨k, hk, rfl, rfl, hb⟩ := hrel
      have htk := tot_take_le ps k
      by_cases hlt : k < ps.length
      · rcases hP with h | ⟨b, o, rfl, hc⟩
        · simp [h] at hlt
        obtain ⟨A, C, hcell, hlc, hcm, _, hb⟩ := hc k hlt
        have hpt := part_le_tot ps k hlt
        clear hc hb hcm hlc
        have HT : Hid (tot (ps.take (k + 1)) = tot (ps.take k) + (part ps k).length) := tot_take_succ ps k hlt
        have hkl : (k : Int) < (ps.length : Int) := by omega
        by_cases hbig : 1048576 < 8 * ps.length + tot (ps.take k) + (part ps k).length
        · have HO : Hid (szB ps = false) := szB_false_at hlt hbig
          have HN : Hid (szN ps = 0) := by show szN ps = 0; simp [szN, HO.out]
          go_wp2
          go_ret2
          exact ⟨ret_tup HN.out.symm HO.out.symm, rfl⟩
        · go_wp2
          go_round
          case rel => exact ⟨k + 1, by omega, by go_num, by have := HT.out; go_num, by have := HT.out; omega⟩
          case measure => simp [intOf]; omega
      · have hke : k = ps.length := by omega
        have HO : Hid (szB ps = true) := by
          show szB ps = true
          rw [hke, tot_all] at hb
          simp only [szB, decide_eq_true_eq]
          refine ⟨by omega, ?_⟩
          rcases hb with h | h
          · have : ps = [] := by simpa using h
            simp [this, tot]
          · exact h
        have HN : Hid ((tot (ps.take k) : Nat) = szN ps) := by
          show ((tot (ps.take k) : Nat) : Int) = szN ps
          rw [hke, tot_all]; simp [szN, HO.out]
        clear hke
        go_wp2
        go_ret2
        exact ⟨ret_tup HN.out HO.out.symm, rfl⟩

set_option maxHeartbeats 400000 in
theorem beq11 (w : World) (a a' : Option Addr) (l : List Int) (c c' : Nat) (hl : l.length ≤ 1048576) (h1 : Bs w a l) (h2 : Bs w a' l) :
    Calls Try.prog 11 #[.slice a l.length c, .slice a' l.length c'] w fun e w' => e = .returned (.bool true) ∧ ∃ n, w' = w.drewN n := by
  go_enter Try.func11, Try.ntmps11
  go_wp2
  go_loopw [5] (fun i wr => ∃ k : Nat, k ≤ l.length ∧ i = .int .i64 k ∧ ∃ n, wr = w.drewN n) (fun i _ => l.length - (intOf i).toNat)
  case atStart => exact ⟨0, Nat.zero_le _, rfl, 0, rfl⟩
  case round =>
    obtain ⟨k, hk, rfl, n, rfl⟩ := hrel
    by_cases hlt : k < l.length
    · rcases h1 with h | ⟨b1, o1, rfl, hc1⟩
      · simp [h] at hlt
      rcases h2 with h | ⟨b2, o2, rfl, hc2⟩
      · simp [h] at hlt
      have g1 := hc1 k hlt
      have g2 := hc2 k hlt
      have hk1 : (k : Int) < (l.length : Int) := by omega
      clear hc1 hc2
      go_wp2
      go_quiet (fail)
      go_wp2
      go_roundw
      case rel => exact ⟨k + 1, by omega, by go_num, _, rfl⟩
      case measure => simp [intOf]; omega
    · go_wp2
      go_ret
      exact ⟨rfl, _, rfl⟩
end Go.Proofs.Qxb6626875a
