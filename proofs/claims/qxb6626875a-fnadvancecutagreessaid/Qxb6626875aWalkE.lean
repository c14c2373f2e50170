import Derived.Test.Qxb6626875aAdv
namespace Go.Proofs.Qxb6626875a
open Go.RowKit

theorem ret_slice {a : Option Addr} {l l' c : Nat} (h : l = l') : Ending.returned (.slice a l c) = .returned (.slice a l' c) := by rw [h]
theorem ptIn_drop {w : World} {g o k : Nat} {ps : List (List Int)} (hc : ∀ k, k < ps.length → Cl w ⟨g, o + k, none⟩ (part ps k)) : PtIn w g (some ⟨g, o + k, none⟩) (ps.drop k) := by
  refine .inr ⟨o + k, rfl, fun j hj => ?_⟩
  rw [part_drop, Nat.add_assoc]
  exact hc (k + j) (by simp at hj; omega)
theorem drop_part (ps : List (List Int)) (k : Nat) (h : k < ps.length) : part ps k :: ps.drop (k + 1) = ps.drop k := by
  rw [List.drop_eq_getElem_cons h]; simp [part, h]

set_option maxHeartbeats 800000 in
theorem adv9 (w : World) (g : Nat) (a : Option Addr) (ps : List (List Int)) (c n : Nat) (hl : ps.length + tot ps ≤ 1048576) (hn : n ≤ tot ps) (hlc : ps.length ≤ c) (hcm : c ≤ maxLen) (hP : PtIn w g a ps)
    (hfz : ps = [] ∨ ∀ o, w.frozen? ⟨g, o, none⟩ = false) :
    Calls Try.prog 9 #[.slice a ps.length c, .int .i64 n] w fun e w' => ∃ a' c', e = .returned (.slice a' (adv ps n).length c') ∧ (adv ps n).length ≤ c' ∧ c' ≤ maxLen ∧ PtIn w' g a' (adv ps n) ∧ AdvW g w w' := by
  unfold maxLen at hcm
  go_enter Try.func9, Try.ntmps9
  go_wp2
  go_loop [0, 1] (fun s i => ∃ (k : Nat) (a' : Option Addr) (c' : Nat), k ≤ ps.length ∧ tot (ps.take k) ≤ n ∧ s = .slice a' (ps.length - k) c' ∧ ps.length - k ≤ c' ∧ c' ≤ c ∧ (k < ps.length → ∃ o, a = some ⟨g, o, none⟩ ∧ a' = some ⟨g, o + k, none⟩) ∧ i = .int .i64 (n - tot (ps.take k) : Nat)) (fun s _ => match s with | .slice _ l _ => l | _ => 0)
  case atStart => 
    refine ⟨0, a, c, Nat.zero_le _, by simp [tot], rfl, hlc, Nat.le_refl _, fun h => ?_, by simp [tot]⟩
    rcases hP with h' | ⟨o, h', _⟩
    · simp [h'] at h
    · exact ⟨o, h', h'⟩
  case round =>
    obtain ⟨k, a', c', hk, ht, rfl, hkc, hcc, hax, rfl⟩ := hrel
    by_cases hlt : k < ps.length
    · obtain ⟨o, ha, ha'⟩ := hax hlt
      clear hax
      subst ha; subst ha'
      rcases hP with h | ⟨o', ho, hc⟩
      · simp [h] at hlt
      simp at ho
      subst ho
      have hCl := hc k hlt
      obtain ⟨A, C, hcell, hpc, hCm, hAn, hB⟩ := hCl
      unfold maxLen at hCm
      have hpt := part_le_tot ps k hlt
      have htk := tot_take_le ps k
      have HT : Hid (tot (ps.take (k + 1)) = tot (ps.take k) + (part ps k).length) := tot_take_succ ps k hlt
      have hl1 : (0 : Int) < ((ps.length - k : Nat) : Int) := by omega
      have HC : Hid (∀ k, k < ps.length → Cl w ⟨g, o + k, none⟩ (part ps k)) := hc
      clear hc
      by_cases hge : (part ps k).length ≤ n - tot (ps.take k)
      · have HB : Hid (Bs w A (part ps k)) := hB
        clear hB
        go_wp2
        go_round
        case rel =>
          refine ⟨k + 1, _, _, by omega, by have := HT.out; omega, rfl, by omega, by omega, fun h => ⟨o, rfl, ?_⟩, by have := HT.out; go_num⟩
          rw [if_neg (by omega), Nat.add_assoc]
        case measure => simp; omega
      · have HA := adv_at ps n k hlt ht (by omega)
        have HA' : Hid (adv ps n = (part ps k).drop (n - tot (ps.take k)) :: ps.drop (k + 1)) := HA
        clear HA
        by_cases hz : n - tot (ps.take k) = 0
        · clear hB
          have HZ : Hid (n - tot (ps.take k) = 0) := hz
          have hz1 : ((n - tot (ps.take k) : Nat) : Int) ≤ 0 := by omega
          clear hz
          go_wp2
          go_ret
          have e1 : adv ps n = ps.drop k := by rw [HA'.out, HZ.out, List.drop_zero, drop_part ps k hlt]
          have e2 : (adv ps n).length = ps.length - k := by rw [e1, List.length_drop]
          refine ⟨_, c', ret_slice e2.symm, by omega, by unfold maxLen; omega, ?_, AdvW.refl _ _⟩
          rw [e1]
          exact ptIn_drop HC.out
        · rcases hB with h | ⟨b, q, hA, hB⟩
          · simp [h] at hge
          subst hA
          have HB : Hid (∀ j, j < (part ps k).length → w.cell? ⟨b, q + j, none⟩ = some (.int .u8 ((part ps k).getD j 0))) := hB
          clear hB
          have hf : w.frozen? ⟨g, o + k, none⟩ = false := by
            rcases hfz with h | h
            · simp [h] at hlt
            · exact h (o + k)
          clear hfz
          go_wp2
          go_ret
          have e2 : (adv ps n).length = ps.length - k := by rw [HA'.out, List.length_cons, List.length_drop]; omega
          refine ⟨_, c', ret_slice e2.symm, by omega, by unfold maxLen; omega, ?_, advW_setCell hcell _⟩
          rw [HA'.out]
          exact ptIn_store HC.out hlt (by omega) hcell HB.out hpc hCm
    · have hke : k = ps.length := by omega
      have hte : tot (ps.take k) = tot ps := by rw [hke, tot_all]
      have HA : Hid (adv ps n = []) := adv_end ps n (by omega)
      have hz1 : ((n - tot (ps.take k) : Nat) : Int) ≤ 0 := by omega
      have hz2 : ((ps.length - k : Nat) : Int) ≤ 0 := by omega
      clear hte hke
      go_wp2
      go_ret
      have e2 : (adv ps n).length = ps.length - k := by rw [HA.out, List.length_nil]; omega
      exact ⟨_, c', ret_slice e2.symm, by omega, by unfold maxLen; omega, .inl HA.out, AdvW.refl _ _⟩
end Go.Proofs.Qxb6626875a
