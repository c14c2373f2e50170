import Derived.Test.Qxb6626875aWalkC
namespace Go.Proofs.Qxb6626875a
open Go.RowKit

theorem Bs_drew {w : World} {a : Option Addr} {l : List Int} (h : Bs w a l) (n : Nat) : Bs (w.drewN n) a l := h

set_option maxHeartbeats 400000 in
theorem peq10 (w : World) (a a' : Option Addr) (ps : List (List Int)) (c c' : Nat) (hl : ps.length + tot ps ≤ 1048576) (h1 : Pt w a ps) (h2 : Pt w a' ps) :
    Calls Try.prog 10 #[.slice a ps.length c, .slice a' ps.length c'] w fun e w' => e = .returned (.bool true) ∧ ∃ n, w' = w.drewN n := by
  go_enter Try.func10, Try.ntmps10
  go_wp2
  go_loopw [5] (fun i wr => ∃ k : Nat, k ≤ ps.length ∧ i = .int .i64 k ∧ ∃ n, wr = w.drewN n) (fun i _ => ps.length - (intOf i).toNat)
  case atStart => exact ⟨0, Nat.zero_le _, rfl, 0, rfl⟩
  case round =>
    obtain ⟨k, hk, rfl, n, hwr⟩ := hrel
    have HW : Hid (wr = w.drewN n) := hwr
    clear hwr
    by_cases hlt : k < ps.length
    · rcases h1 with h | ⟨b1, o1, rfl, hc1⟩
      · simp [h] at hlt
      rcases h2 with h | ⟨b2, o2, rfl, hc2⟩
      · simp [h] at hlt
      obtain ⟨A1, C1, g1, _, _, _, B1⟩ := hc1 k hlt
      obtain ⟨A2, C2, g2, _, _, _, B2⟩ := hc2 k hlt
      have hk1 : (k : Int) < (ps.length : Int) := by omega
      have hpt := part_le_tot ps k hlt
      clear hc1 hc2
      have H1 : Hid (Bs wr A1 (part ps k)) := by rw [HW.out]; exact B1
      have H2 : Hid (Bs wr A2 (part ps k)) := by rw [HW.out]; exact B2
      have f1 : wr.cell? ⟨b1, o1 + k, none⟩ = some (.slice A1 (part ps k).length C1) := by rw [HW.out]; exact g1
      have f2 : wr.cell? ⟨b2, o2 + k, none⟩ = some (.slice A2 (part ps k).length C2) := by rw [HW.out]; exact g2
      clear B1 B2 g1 g2
      go_wp2
      go_quiet ((go_at_call 11; exact Calls.quiet_of (beq11 _ A1 A2 (part ps k) C1 C2 (by omega) (Bs_drew H1.out _) (Bs_drew H2.out _))))
      go_wp2
      go_roundw
      case rel => exact ⟨k + 1, by omega, by go_num, n + nq, by rw [HW.out, World.drewN_drewN]⟩
      case measure => simp [intOf]; omega
    · go_wp2
      go_ret
      exact ⟨rfl, n, HW.out⟩

set_option maxHeartbeats 400000 in
theorem tail14 (w : World) (a a' : Option Addr) (rs ps : List (List Int)) (c c' : Nat) (hl : ps.length + tot ps ≤ 1048576) (h1 : Pt w a rs) (h2 : Pt w a' ps) (hle : rs.length ≤ ps.length)
    (heq : ∀ k, 1 ≤ k → k < rs.length → part rs k = part ps (ps.length - rs.length + k)) :
    Calls Try.prog 14 #[.slice a rs.length c, .slice a' ps.length c'] w fun e w' => e = .returned (.bool true) ∧ ∃ n, w' = w.drewN n := by
  have HE : Hid (∀ k, 1 ≤ k → k < rs.length → part rs k = part ps (ps.length - rs.length + k)) := heq
  clear heq
  have hle1 : (rs.length : Int) ≤ (ps.length : Int) := by omega
  go_enter Try.func14, Try.ntmps14
  go_wp2
  go_loopw [6] (fun i wr => ∃ k : Nat, 1 ≤ k ∧ (k ≤ rs.length ∨ k = 1) ∧ i = .int .i64 k ∧ ∃ n, wr = w.drewN n) (fun i _ => rs.length - (intOf i).toNat)
  case atStart => exact ⟨1, Nat.le_refl _, .inr rfl, rfl, 0, rfl⟩
  case round =>
    obtain ⟨k, hk0, hk, rfl, n, hwr⟩ := hrel
    have HW : Hid (wr = w.drewN n) := hwr
    clear hwr
    by_cases hlt : k < rs.length
    · rcases h1 with h | ⟨b1, o1, rfl, hc1⟩
      · simp [h] at hlt
      rcases h2 with h | ⟨b2, o2, rfl, hc2⟩
      · simp [h] at hle; simp [hle] at hlt
      obtain ⟨A1, C1, g1, _, _, _, B1⟩ := hc1 k hlt
      have hlt2 : ps.length - rs.length + k < ps.length := by omega
      obtain ⟨A2, C2, g2, _, _, _, B2⟩ := hc2 (ps.length - rs.length + k) hlt2
      have hpt := part_le_tot ps _ hlt2
      rw [← HE.out k hk0 hlt] at g2 B2 hpt
      have hk1 : (k : Int) < (rs.length : Int) := by omega
      have e1 : ((ps.length : Int) - (rs.length : Int) + (k : Int)).toNat = ps.length - rs.length + k := by omega
      have hk2 : ((ps.length : Int) - (rs.length : Int) + (k : Int)) < (ps.length : Int) := by omega
      have hk3 : 0 ≤ ((ps.length : Int) - (rs.length : Int) + (k : Int)) := by omega
      clear hc1 hc2
      have H1 : Hid (Bs wr A1 (part rs k)) := by rw [HW.out]; exact B1
      have H2 : Hid (Bs wr A2 (part rs k)) := by rw [HW.out]; exact B2
      have f1 : wr.cell? ⟨b1, o1 + k, none⟩ = some (.slice A1 (part rs k).length C1) := by rw [HW.out]; exact g1
      have f2 : wr.cell? ⟨b2, o2 + (ps.length - rs.length + k), none⟩ = some (.slice A2 (part rs k).length C2) := by rw [HW.out]; exact g2
      clear B1 B2 g1 g2
      go_wp2
      go_quiet ((go_at_call 11; exact Calls.quiet_of (beq11 _ A1 A2 (part rs k) C1 C2 (by omega) (Bs_drew H1.out _) (Bs_drew H2.out _))))
      go_wp2
      go_roundw
      case rel => exact ⟨k + 1, by omega, by omega, by go_num, n + nq, by rw [HW.out, World.drewN_drewN]⟩
      case measure => simp [intOf]; omega
    · go_wp2
      go_ret
      exact ⟨rfl, n, HW.out⟩
end Go.Proofs.Qxb6626875a
