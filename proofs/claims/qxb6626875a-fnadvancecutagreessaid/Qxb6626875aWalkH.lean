import Derived.Test.Qxb6626875aWalkG
namespace Go.Proofs.Qxb6626875a
open Go.RowKit

set_option maxHeartbeats 1600000 in
theorem clone7 (w : World) (a : Option Addr) (ps : List (List Int)) (c : Nat) (hn : a = none → c = 0) (hl : ps.length + tot ps ≤ 1048576) (hP : Pt w a ps) :
    Calls Try.prog 7 #[.slice a ps.length c] w fun e w' => ∃ a' c', e = .returned (.slice a' ps.length c') ∧ ps.length ≤ c' ∧ c' ≤ maxLen ∧ (a' = none → c' = 0) ∧ PtIn w' w.heap.size a' ps ∧ (ps = [] ∨ ∀ o, w'.frozen? ⟨w.heap.size, o, none⟩ = false) ∧ Below w.heap.size w w' := by
  obtain ⟨i0, hi, hz0, hz1, hz2⟩ := info_parts Try.info5
  obtain ⟨j0, hj, hy0, hy1, hy2⟩ := info_parts Try.info27
  have q22 : ∀ (w : World) (a : Option Addr) (n c n' c' : Nat), (binOp .eql 22 (.slice a n c) (.slice none n' c')).run Try.prog w = .ok (.bool a.isNone) w := fun w a n c n' c' => Lib.run_eql_slice_nil w _ _ a n c n' c' Try.underlying22
  have q27 : ∀ (w : World) (a : Option Addr) (n c n' c' : Nat), (binOp .eql 27 (.slice a n c) (.slice none n' c')).run Try.prog w = .ok (.bool a.isNone) w := fun w a n c n' c' => Lib.run_eql_slice_nil w _ _ a n c n' c' Try.underlying27
  cases a with
  | none =>
    have he : ps = [] := by
      rcases hP with h | ⟨b, o, h, _⟩
      · exact h
      · cases h
    subst he
    have hc := hn rfl
    subst hc
    simp only [List.length_nil]
    go_enter Try.func7, Try.ntmps7
    go_wp2
    go_ret
    exact ⟨none, 0, rfl, Nat.zero_le _, fun _ => rfl, .inl rfl, Below.refl _ _⟩
  | some ad =>
    clear hn
    go_enter Try.func7, Try.ntmps7
    go_wp2_with (at_make; refine wpList_make_full _ rfl _ _ 22 rfl w.heap.size 27 j0 (.slice none 0 0) 1 Try.underlying22 hj hy0 hy1 _ _ _ _ ps.length rfl rfl rfl rfl ?b2 ?b3 (Nat.le_refl _) ?_)
    case b2 => first | omega | (rw [hy2]; omega)
    case b3 => unfold maxLen; omega
    intro w0 hown0 hgrow0
    have hF0 : Fill w w0 ps 0 := by
      refine ⟨_, hown0, fun i hi => absurd hi (Nat.not_lt_zero _), fun i _ hi2 => ?_, (Below.refl _ _).grown hgrow0 (Nat.le_refl _) (fun k h => by cases h)⟩
      rw [toList_madeCells_one, List.getElem?_replicate, if_pos hi2]
    clear hown0 hgrow0
    go_wp2
    go_loopg [4] (ps.length + 1) (fun gk i wr => ∃ k : Nat, k ≤ ps.length ∧ gk = ps.length + 1 - k ∧ i = .int .i64 k ∧ Fill w wr ps k)
    case atStart => exact ⟨0, Nat.zero_le _, rfl, rfl, hF0⟩
    case round =>
      clear hF0
      obtain ⟨k, hk, rfl, rfl, hF⟩ := hrel
      by_cases hlt : k < ps.length
      · rcases hP with h | ⟨b, o, hab, hc⟩
        · simp [h] at hlt
        cases hab
        have hbel : Below w.heap.size w wr := hF.choose_spec.2.2.2
        obtain ⟨A, C, hcell, hlc, hcm, hAn, hB⟩ := (hc k hlt).below hbel
        have hpt := part_le_tot ps k hlt
        clear hc
        have hkl : (k : Int) < (ps.length : Int) := by omega
        unfold maxLen at hcm
        have HF : Hid (Fill w wr ps k) := hF
        clear hF
        cases A with
        | none =>
          have he : part ps k = [] := by
            have := hAn rfl
            exact List.eq_nil_of_length_eq_zero (by omega)
          have HE : Hid (Fill w wr ps (k + 1)) := fill_nil HF.out hlt he
          clear he hAn hB
          go_wp2
          go_roundg (ps.length + 1 - (k + 1))
          case rel => exact ⟨k + 1, by omega, rfl, by go_num, HE.out⟩
          case measure => omega
        | some ad2 =>
          clear hAn
          have HB : Hid (Bs wr (some ad2) (part ps k)) := hB
          clear hB
          go_wp2_with (at_make; refine wpList_make_full _ rfl _ _ 27 rfl wr.heap.size 5 i0 (.int .u8 0) 1 Try.underlying27 hi hz0 hz1 _ _ _ _ (part ps k).length rfl rfl rfl rfl ?b4 ?b5 (Nat.le_refl _) ?_)
          case b4 => first | omega | (rw [hz2]; omega)
          case b5 => unfold maxLen; omega
          intro w1 hown1 hgrow1
          have hC0 : Copy wr w1 wr.heap.size (part ps k) 0 := ⟨_, hown1, fun i hi => absurd hi (Nat.not_lt_zero _), rfl, (Below.refl _ _).grown hgrow1 (Nat.le_refl _) (fun k h => by cases h)⟩
          clear hown1 hgrow1
          go_wp2
          obtain ⟨wo, hwo⟩ : ∃ wo : World, wo = wr := ⟨_, rfl⟩
          subst hwo
          go_loopg [6] ((part ps k).length + 1) (fun gj i wi => ∃ j : Nat, j ≤ (part ps k).length ∧ gj = (part ps k).length + 1 - j ∧ i = .int .i64 j ∧ Copy wo wi wo.heap.size (part ps k) j)
          case atStart => exact ⟨0, Nat.zero_le _, rfl, rfl, hC0⟩
          case round =>
            clear hC0
            obtain ⟨j, hjle, rfl, rfl, hCp⟩ := hrel
            have hBel : Below wo.heap.size wo wr := hCp.choose_spec.2.2.2
            have hcell2 : wr.cell? ⟨b, o + k, none⟩ = some (.slice (some ad2) (part ps k).length C) := (hBel.cell (block_lt_of_cell hcell)).trans hcell
            by_cases hjl : j < (part ps k).length
            · rcases HB.out with h | ⟨b2, o2, hab2, hB⟩
              · simp [h] at hjl
              cases hab2
              have hbyte : wr.cell? ⟨b2, o2 + j, none⟩ = some (.int .u8 ((part ps k).getD j 0)) := (hBel.cell (block_lt_of_cell (hB j hjl))).trans (hB j hjl)
              obtain ⟨⟨v, hv⟩, hfr⟩ := copy_cell hCp hjl
              have HS : Hid (Copy wo (wr.setCell ⟨wo.heap.size, j, none⟩ (.int .u8 ((part ps k).getD j 0))) wo.heap.size (part ps k) (j + 1)) := copy_store hCp hjl
              clear hB hCp hBel hcell
              have hjl1 : (j : Int) < ((part ps k).length : Int) := by omega
              go_wp2
              go_roundg ((part ps k).length + 1 - (j + 1))
              case rel => exact ⟨j + 1, by omega, rfl, by go_num, by simpa [hjl] using HS.out⟩
              case measure => omega
            · have hje : j = (part ps k).length := by omega
              subst hje
              obtain ⟨hBs, _⟩ := copy_end hCp
              obtain ⟨hc1, hc2⟩ := fill_cell HF.out hlt hBel
              have HS : Hid (Fill w (wr.setCell ⟨w.heap.size, k, none⟩ (.slice (some ⟨wo.heap.size, 0, none⟩) (part ps k).length (part ps k).length)) ps (k + 1)) := fill_store HF.out hlt hBel hBs (by unfold maxLen; omega)
              clear hBs hCp hBel hcell
              go_wp2
              go_roundg (ps.length + 1 - (k + 1))
              case rel => exact ⟨k + 1, by omega, rfl, by go_num, HS.out⟩
              case measure => omega
      · have hke : k = ps.length := by omega
        subst hke
        obtain ⟨e1, e2, e3⟩ := fill_end hF
        have HS : Hid (PtIn wr w.heap.size (some ⟨w.heap.size, 0, none⟩) ps ∧ (∀ o, wr.frozen? ⟨w.heap.size, o, none⟩ = false) ∧ Below w.heap.size w wr) := ⟨e1, e2, e3⟩
        clear e1 e2 e3 hF
        go_wp2
        go_ret
        exact ⟨_, _, rfl, Nat.le_refl _, by unfold maxLen; omega, by simp, HS.out.1, .inr HS.out.2.1, HS.out.2.2⟩
end Go.Proofs.Qxb6626875a
