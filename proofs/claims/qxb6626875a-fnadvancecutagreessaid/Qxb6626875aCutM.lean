import Derived.Test.Qxb6626875aCut
import Derived.Deep.RegionHeld3
import Derived.Deep.DrawnRows
namespace Go.Proofs.Qxb6626875a
open Go.RowKit

attribute [local go_sem ↓] Go.wp_at_zero Go.wp_at_succ

theorem pt_cut {w : World} {g i : Nat} {a : Option Addr} {ps : List (List Int)} (h : PtIn w g a ps) (hi : i ≤ ps.length) : Pt w (Option.map (fun x => x.add i) a) (ps.drop i) := by
  by_cases hi' : i < ps.length
  · rcases h with h | ⟨o, h1, h2⟩
    · simp [h] at hi'
    subst h1
    have := (ptIn_drop (k := i) h2).pt
    by_cases h0 : i = 0
    · subst h0; simpa [Addr.add] using this
    · simpa [Addr.add, h0] using this
  · exact .inl (by simp; omega)
theorem ds_or {ps ds : List (List Int)} {p : Prop} (hd : ps = [] → ds = []) (h : ps = [] ∨ p) : ds = [] ∨ p := by
  rcases h with h | h
  · exact .inl (hd h)
  · exact .inr h

set_option maxHeartbeats 3200000 in
theorem cut_main (w : World) (a0 : Option Addr) (ps : List (List Int)) (c i : Nat) (y : Int) (hn : a0 = none → c = 0) (hok : ps.length + tot ps ≤ 1048576) (hP : Pt w a0 ps) (hsz : szB ps = true) (hi : i ≤ ps.length) :
    Calls Try.prog 4 #[.slice a0 ps.length c, .int .i64 i, .int .i64 y] w fun e w' => e = .returned (.bool true) ∧ Below w.heap.size w w' := by
  have HC := bytes13 w a0 ps c i y (by unfold maxLen; omega) hP
  rw [okB_true hok] at HC
  have HH : Hid (Calls Try.prog 13 #[.slice a0 ps.length c, .int .i64 i, .int .i64 y] w fun e w' => e = .returned (.bool true) ∧ w' = w) := HC
  have HS := size6 w a0 ps c hok hP
  have hN : szN ps = tot ps := by simp [szN, hsz]
  rw [hN, hsz] at HS
  have HS' : Hid (Calls Try.prog 6 #[.slice a0 ps.length c] w fun e w' => e = .returned (.tuple #[.int .i64 (tot ps), .bool true]) ∧ w' = w) := HS
  have HL : Hid (Calls Try.prog 7 #[.slice a0 ps.length c] w fun e w' => ∃ a' c', e = .returned (.slice a' ps.length c') ∧ ps.length ≤ c' ∧ c' ≤ maxLen ∧ (a' = none → c' = 0) ∧ PtIn w' w.heap.size a' ps ∧ (ps = [] ∨ ∀ o, w'.frozen? ⟨w.heap.size, o, none⟩ = false) ∧ Below w.heap.size w w') := clone7 w a0 ps c hn hok hP
  clear HC HS hN hsz hn
  have hi1 : (i : Int) ≤ (ps.length : Int) := by omega
  go_enter Try.func4, Try.ntmps4
  go_wp2_with fail
  refine HH.out.mono ?_
  rintro e w ⟨rfl, rfl⟩
  go_wp2_with fail
  refine HS'.out.mono ?_
  rintro e w ⟨rfl, rfl⟩
  clear HH HS'
  go_wp2_with fail
  go_loop [9, 10] (fun n j => ∃ k : Nat, k ≤ i ∧ j = .int .i64 k ∧ n = .int .i64 (tot (ps.take k) : Nat)) (fun _ j => i - (intOf j).toNat)
  case atStart => exact ⟨0, Nat.zero_le _, rfl, by simp [tot]⟩
  case round =>
    obtain ⟨k, hk, rfl, rfl⟩ := hrel
    have htk := tot_take_le ps k
    by_cases hlt : k < i
    · rcases hP with h | ⟨b, o, rfl, hc⟩
      · simp [h] at hi; omega
      obtain ⟨A, C, hcell, hlc, hcm, _, hb⟩ := hc k (by omega)
      have hpt := part_le_tot ps k (by omega)
      clear hc hb hcm hlc HL
      have HT : Hid (tot (ps.take (k + 1)) = tot (ps.take k) + (part ps k).length) := tot_take_succ ps k (by omega)
      have hkl : (k : Int) < (ps.length : Int) := by omega
      have hkl2 : (k : Int) < (i : Int) := by omega
      go_wp2
      go_round
      case rel => exact ⟨k + 1, by omega, by go_num, by have := HT.out; go_num⟩
      case measure => simp [intOf]; omega
    · have hke : k = i := by omega
      subst hke
      clear hlt hk hP
      by_cases hy1 : y < (tot (ps.take k) : Nat)
      · go_wp2
        go_ret
        exact ⟨rfl, Below.refl _ _⟩
      by_cases hy2 : (tot ps : Nat) < y
      · have hy1' : ((tot (ps.take k) : Nat) : Int) ≤ y := by omega
        go_wp2
        go_ret
        exact ⟨rfl, Below.refl _ _⟩
      obtain ⟨n, rfl⟩ : ∃ n : Nat, y = n := ⟨y.toNat, by omega⟩
      have hn1 : tot (ps.take k) ≤ n := by omega
      have hn2 : n ≤ tot ps := by omega
      clear hy1 hy2
      go_wp2_with fail
      refine HL.out.mono ?_
      rintro e w1 ⟨a1, c1, rfl, hc1, hm1, hn1', hP1, _, hb1⟩
      have HP1 : Hid (PtIn w1 w.heap.size a1 ps) := hP1
      have HN1 : Hid (a1 = none → c1 = 0) := hn1'
      have HR1 : Hid (ps = [] ∨ w.heap.size < w1.heap.size) := HP1.out.lt
      clear hP1 hn1' HL
      go_wp2_with fail
      refine (cat8 w1 a1 ps c1 hok HP1.out.pt).mono ?_
      rintro e w2 ⟨rfl, hB2, hb2⟩
      have HP2 : Hid (PtIn w2 w.heap.size a1 ps) := HP1.out.below hb2
      have HB2 : Hid (Bs w2 (some ⟨w1.heap.size, 0, none⟩) (cat ps)) := hB2
      clear hB2 HP1
      go_wp2_with fail
      refine (clone7 w2 a1 ps c1 HN1.out hok HP2.out.pt).mono ?_
      rintro e w3 ⟨a3, c3, rfl, hc3, hm3, _, hP3, hf3, hb3⟩
      have HP3 : Hid (PtIn w3 w2.heap.size a3 ps ∧ (ps = [] ∨ ∀ o, w3.frozen? ⟨w2.heap.size, o, none⟩ = false)) := ⟨hP3, hf3⟩
      have HB3 : Hid (Bs w3 (some ⟨w1.heap.size, 0, none⟩) (cat ps)) := HB2.out.below hb3
      have HP2' : Hid (PtIn w3 w.heap.size a1 ps) := HP2.out.below hb3
      clear HP2 HB2 hP3 hf3
      unfold maxLen at hm1
      have H01 : Hid (ps = [] ∨ w.heap.size < w1.heap.size) := HR1.out
      obtain ⟨ds, HD, HDP⟩ : ∃ ds, Hid (ds.length = ps.length - k ∧ ds.length + tot ds ≤ 1048576 ∧ tot ds = tot ps - tot (ps.take k) ∧ (ps = [] → ds = []) ∧ adv ds (n - tot (ps.take k)) = adv ps n) ∧ Hid ((c1 = k → ds = []) ∧ Pt w3 (Option.map (fun x => x.add k) a1) ds) := by
        have := tot_drop ps k
        exact ⟨ps.drop k, ⟨by simp, by simp; omega, by omega, fun h => by simp [h], (adv_cut ps k n hn1).symm⟩, ⟨fun h => by simp; omega, pt_cut HP2'.out hi⟩⟩
      generalize tot (ps.take k) = pre at *
      have hck : c1 = k ∨ ¬ c1 = k := Classical.em _
      rcases hck with hck | hck
      · have HP4' : Hid (Pt w3 a1 ds) := .inl (HDP.out.1 hck)
        clear HDP
        go_wp2_with fail
        · refine (clone7n w3 _ ds _ _ HD.out.1 (fun _ => rfl) HD.out.2.1 HP4'.out).mono ?_
          clear HP4' hck
          rintro e w4 ⟨a4, c4, rfl, hc4, hm4, _, hP4, hf4, hb4⟩
          have h23 : ps = [] ∨ w3.heap.size ≠ w2.heap.size := by
            rcases HP3.out.1.lt with h | h
            · exact .inl h
            · exact .inr (by omega)
          have z1 := hb1.size
          have z2 := hb2.size
          have z3 := hb3.size
          have z4 := hb4.size
          have h12 : ps = [] ∨ w.heap.size ≠ w2.heap.size := by
            rcases H01.out with h | h
            · exact .inl h
            · exact .inr (by omega)
          have h13 : ps = [] ∨ w.heap.size ≠ w3.heap.size := by
            rcases H01.out with h | h
            · exact .inl h
            · exact .inr (by omega)
          have HF4 : Hid ((ps = [] ∨ ∀ o, w4.frozen? ⟨w2.heap.size, o, none⟩ = false)) := by
            rcases HP3.out.2 with h | h
            · exact .inl h
            · rcases HP3.out.1.lt with h' | h'
              · exact .inl h'
              · exact .inr fun o => (hb4.frozen h').trans (h o)
          have HP4 : Hid (PtIn w4 w2.heap.size a3 ps ∧ PtIn w4 w3.heap.size a4 (ds) ∧ (ds = [] ∨ ∀ o, w4.frozen? ⟨w3.heap.size, o, none⟩ = false) ∧ PtIn w4 w.heap.size a1 ps) := ⟨HP3.out.1.below hb4, hP4, hf4, HP2'.out.below hb4⟩
          have HB4 : Hid (Bs w4 (some ⟨w1.heap.size, 0, none⟩) (cat ps)) := HB3.out.below hb4
          clear HP2' HB3 HP3 hP4 hf4 HN1
          go_wp2_with fail
          refine (adv9 w4 w2.heap.size a3 ps c3 n hok hn2 hc3 hm3 HP4.out.1 HF4.out).mono ?_
          rintro e w5 ⟨a5, c5, rfl, hc5, hm5, hP5, hA5⟩
          have HP5 : Hid (PtIn w5 w2.heap.size a5 (adv ps n) ∧ PtIn w5 w3.heap.size a4 (ds) ∧ PtIn w5 w.heap.size a1 ps) := ⟨hP5, HP4.out.2.1.adv' hA5 (ds_or HD.out.2.2.2.1 h23), HP4.out.2.2.2.adv' hA5 h12⟩
          have HF5 : Hid (ds = [] ∨ ∀ o, w5.frozen? ⟨w3.heap.size, o, none⟩ = false) := frozen_other HP4.out.2.1 hA5 (ds_or HD.out.2.2.2.1 h23) HP4.out.2.2.1
          have HB5 : Hid (Bs w5 (some ⟨w1.heap.size, 0, none⟩) (cat ps)) := HB4.out.adv hA5
          clear HP4 HF4 HB4 hP5
          go_wp2_with fail
          rw [show (n : Int) - ((pre : Nat) : Int) = ((n - pre : Nat) : Int) by omega]
          refine (adv9 w5 w3.heap.size a4 (ds) c4 (n - pre) HD.out.2.1 (by have := HD.out.2.2.1; omega) hc4 hm4 HP5.out.2.1 HF5.out).mono ?_
          rintro e w6 ⟨a6, c6, rfl, hc6, hm6, hP6, hA6⟩
          rw [HD.out.2.2.2.2] at hc6 hP6
          rw [HD.out.2.2.2.2]
          have HP6 : Hid (PtIn w6 w2.heap.size a5 (adv ps n) ∧ PtIn w6 w3.heap.size a6 (adv ps n) ∧ PtIn w6 w.heap.size a1 ps) := ⟨HP5.out.1.adv' hA6 (adv_nil_ne _ h23), hP6, HP5.out.2.2.adv' hA6 h13⟩
          have HB6 : Hid (Bs w6 (some ⟨w1.heap.size, 0, none⟩) (cat ps)) := HB5.out.adv hA6
          have z5 := hA5.grown.size
          have z6 := hA6.grown.size
          have HW : Hid (Below w.heap.size w w6) := hb1.trans <| (hb2.mono z1).trans <| (hb3.mono (by omega)).trans <| (hb4.mono (by omega)).trans <| (hA5.below (by omega) (by omega)).trans (hA6.below (by omega) (by omega))
          have hz6 : w.heap.size ≤ w6.heap.size := by omega
          clear z1 z2 z3 z4 z5 z6 hb1 hb2 hb3 hb4 HP5 HF5 HB5 hP6 hA6 hA5 h12 h13 h23
          have HL : Hid ((adv ps n).length + tot (adv ps n) ≤ 1048576) := by
            show _ ≤ _
            rw [adv_tot]; have := adv_len ps n; omega
          have HX : Hid (cat (adv ps n) = (cat ps).drop n ∧ tot (adv ps n) = tot ps - n ∧ (adv ps n = [] ∨ 0 < (part (adv ps n) 0).length) ∧ (adv ps n).length ≤ ps.length ∧ (∀ j, 1 ≤ j → j < (adv ps n).length → part (adv ps n) j = part ps (ps.length - (adv ps n).length + j))) := ⟨adv_cat _ _, adv_tot _ _, adv_lead _ _, adv_len _ _, fun j h1 h2 => adv_tail ps n j h1 h2⟩
          generalize adv ps n = rs at *
          clear HD
          go_wp2_with fail
          have hx1 : (n : Int) ≤ (tot ps : Int) := by omega
          by_cases he : tot ps = n
          · have HE : Hid (cat rs = []) := List.eq_nil_of_length_eq_zero (by rw [cat_length, HX.out.2.1]; omega)
            go_region_held3 (fun _ => True) (trivial) (first
              | (go_at_call 10; refine (peq10 _ a5 a6 rs c5 c6 HL.out (by exact HP6.out.1.pt) (by exact HP6.out.2.1.pt)).mono ?_; rintro e w8 ⟨rfl, n8, rfl⟩)
              | (go_at_call 8; refine (cat8 _ a5 rs c5 HL.out (by exact HP6.out.1.pt)).mono ?_; rintro e w9 ⟨rfl, hB9, hb9⟩)
              | (go_at_call 11; refine (beq11n _ _ _ (cat rs) (tot rs) _ _ _ (cat_length rs) (by rw [cat_length]; have := HX.out.2.1; omega) (by have := HL.out; omega) (by exact hB9) (by exact .inl HE.out)).mono ?_; rintro e w10 ⟨rfl, n10, rfl⟩)
              | (go_at_call 14; refine (tail14 _ a5 a1 rs ps c5 _ hok (by exact HP6.out.1.pt.past hb9 _) (by exact HP6.out.2.2.pt.past hb9 _) HX.out.2.2.2.1 HX.out.2.2.2.2).mono ?_; rintro e w11 ⟨rfl, n11, rfl⟩)
              | (go_at_call 12; refine (nolead_any _ a5 rs c5 (by have := HL.out; omega) (by exact HP6.out.1.pt.past hb9 _) (HX.out.2.2.1)).mono ?_; rintro e w12 ⟨rfl, rfl⟩))
            go_wp2
            go_ret
            exact ⟨rfl, below_past HW.out hz6 hb9 _⟩
          · have he' : ¬ tot ps - n = 0 := by omega
            go_region_held3 (fun _ => True) (trivial) (first
              | (go_at_call 10; refine (peq10 _ a5 a6 rs c5 c6 HL.out (by exact HP6.out.1.pt) (by exact HP6.out.2.1.pt)).mono ?_; rintro e w8 ⟨rfl, n8, rfl⟩)
              | (go_at_call 8; refine (cat8 _ a5 rs c5 HL.out (by exact HP6.out.1.pt)).mono ?_; rintro e w9 ⟨rfl, hB9, hb9⟩)
              | (go_at_call 11; refine (beq11n _ _ (some ⟨w1.heap.size, n, none⟩) (cat rs) (tot rs) (tot ps - n) _ _ (cat_length rs) (by rw [cat_length]; exact HX.out.2.1) (by have := HL.out; omega) (by exact hB9) (by rw [HX.out.1]; exact Bs_from (HB6.out.past hb9 0))).mono ?_; rintro e w10 ⟨rfl, n10, rfl⟩)
              | (go_at_call 14; refine (tail14 _ a5 a1 rs ps c5 _ hok (by exact HP6.out.1.pt.past hb9 _) (by exact HP6.out.2.2.pt.past hb9 _) HX.out.2.2.2.1 HX.out.2.2.2.2).mono ?_; rintro e w11 ⟨rfl, n11, rfl⟩)
              | (go_at_call 12; refine (nolead_any _ a5 rs c5 (by have := HL.out; omega) (by exact HP6.out.1.pt.past hb9 _) (HX.out.2.2.1)).mono ?_; rintro e w12 ⟨rfl, rfl⟩))
            go_wp2
            go_ret
            exact ⟨rfl, below_past HW.out hz6 hb9 _⟩
      · have HP4' : Hid (Pt w3 (Option.map (fun x => x.add k) a1) ds) := HDP.out.2
        clear HDP
        go_wp2_with fail
        · refine (clone7n w3 _ ds _ _ HD.out.1 (fun h => by have h1 : a1 = none := (by simpa using h); have h2 := HN1.out h1; omega) HD.out.2.1 HP4'.out).mono ?_
          clear HP4'
          rintro e w4 ⟨a4, c4, rfl, hc4, hm4, _, hP4, hf4, hb4⟩
          have h23 : ps = [] ∨ w3.heap.size ≠ w2.heap.size := by
            rcases HP3.out.1.lt with h | h
            · exact .inl h
            · exact .inr (by omega)
          have z1 := hb1.size
          have z2 := hb2.size
          have z3 := hb3.size
          have z4 := hb4.size
          have h12 : ps = [] ∨ w.heap.size ≠ w2.heap.size := by
            rcases H01.out with h | h
            · exact .inl h
            · exact .inr (by omega)
          have h13 : ps = [] ∨ w.heap.size ≠ w3.heap.size := by
            rcases H01.out with h | h
            · exact .inl h
            · exact .inr (by omega)
          have HF4 : Hid ((ps = [] ∨ ∀ o, w4.frozen? ⟨w2.heap.size, o, none⟩ = false)) := by
            rcases HP3.out.2 with h | h
            · exact .inl h
            · rcases HP3.out.1.lt with h' | h'
              · exact .inl h'
              · exact .inr fun o => (hb4.frozen h').trans (h o)
          have HP4 : Hid (PtIn w4 w2.heap.size a3 ps ∧ PtIn w4 w3.heap.size a4 (ds) ∧ (ds = [] ∨ ∀ o, w4.frozen? ⟨w3.heap.size, o, none⟩ = false) ∧ PtIn w4 w.heap.size a1 ps) := ⟨HP3.out.1.below hb4, hP4, hf4, HP2'.out.below hb4⟩
          have HB4 : Hid (Bs w4 (some ⟨w1.heap.size, 0, none⟩) (cat ps)) := HB3.out.below hb4
          clear HP2' HB3 HP3 hP4 hf4 HN1
          go_wp2_with fail
          refine (adv9 w4 w2.heap.size a3 ps c3 n hok hn2 hc3 hm3 HP4.out.1 HF4.out).mono ?_
          rintro e w5 ⟨a5, c5, rfl, hc5, hm5, hP5, hA5⟩
          have HP5 : Hid (PtIn w5 w2.heap.size a5 (adv ps n) ∧ PtIn w5 w3.heap.size a4 (ds) ∧ PtIn w5 w.heap.size a1 ps) := ⟨hP5, HP4.out.2.1.adv' hA5 (ds_or HD.out.2.2.2.1 h23), HP4.out.2.2.2.adv' hA5 h12⟩
          have HF5 : Hid (ds = [] ∨ ∀ o, w5.frozen? ⟨w3.heap.size, o, none⟩ = false) := frozen_other HP4.out.2.1 hA5 (ds_or HD.out.2.2.2.1 h23) HP4.out.2.2.1
          have HB5 : Hid (Bs w5 (some ⟨w1.heap.size, 0, none⟩) (cat ps)) := HB4.out.adv hA5
          clear HP4 HF4 HB4 hP5
          go_wp2_with fail
          rw [show (n : Int) - ((pre : Nat) : Int) = ((n - pre : Nat) : Int) by omega]
          refine (adv9 w5 w3.heap.size a4 (ds) c4 (n - pre) HD.out.2.1 (by have := HD.out.2.2.1; omega) hc4 hm4 HP5.out.2.1 HF5.out).mono ?_
          rintro e w6 ⟨a6, c6, rfl, hc6, hm6, hP6, hA6⟩
          rw [HD.out.2.2.2.2] at hc6 hP6
          rw [HD.out.2.2.2.2]
          have HP6 : Hid (PtIn w6 w2.heap.size a5 (adv ps n) ∧ PtIn w6 w3.heap.size a6 (adv ps n) ∧ PtIn w6 w.heap.size a1 ps) := ⟨HP5.out.1.adv' hA6 (adv_nil_ne _ h23), hP6, HP5.out.2.2.adv' hA6 h13⟩
          have HB6 : Hid (Bs w6 (some ⟨w1.heap.size, 0, none⟩) (cat ps)) := HB5.out.adv hA6
          have z5 := hA5.grown.size
          have z6 := hA6.grown.size
          have HW : Hid (Below w.heap.size w w6) := hb1.trans <| (hb2.mono z1).trans <| (hb3.mono (by omega)).trans <| (hb4.mono (by omega)).trans <| (hA5.below (by omega) (by omega)).trans (hA6.below (by omega) (by omega))
          have hz6 : w.heap.size ≤ w6.heap.size := by omega
          clear z1 z2 z3 z4 z5 z6 hb1 hb2 hb3 hb4 HP5 HF5 HB5 hP6 hA6 hA5 h12 h13 h23
          have HL : Hid ((adv ps n).length + tot (adv ps n) ≤ 1048576) := by
            show _ ≤ _
            rw [adv_tot]; have := adv_len ps n; omega
          have HX : Hid (cat (adv ps n) = (cat ps).drop n ∧ tot (adv ps n) = tot ps - n ∧ (adv ps n = [] ∨ 0 < (part (adv ps n) 0).length) ∧ (adv ps n).length ≤ ps.length ∧ (∀ j, 1 ≤ j → j < (adv ps n).length → part (adv ps n) j = part ps (ps.length - (adv ps n).length + j))) := ⟨adv_cat _ _, adv_tot _ _, adv_lead _ _, adv_len _ _, fun j h1 h2 => adv_tail ps n j h1 h2⟩
          generalize adv ps n = rs at *
          clear HD
          go_wp2_with fail
          have hx1 : (n : Int) ≤ (tot ps : Int) := by omega
          by_cases he : tot ps = n
          · have HE : Hid (cat rs = []) := List.eq_nil_of_length_eq_zero (by rw [cat_length, HX.out.2.1]; omega)
            go_region_held3 (fun _ => True) (trivial) (first
              | (go_at_call 10; refine (peq10 _ a5 a6 rs c5 c6 HL.out (by exact HP6.out.1.pt) (by exact HP6.out.2.1.pt)).mono ?_; rintro e w8 ⟨rfl, n8, rfl⟩)
              | (go_at_call 8; refine (cat8 _ a5 rs c5 HL.out (by exact HP6.out.1.pt)).mono ?_; rintro e w9 ⟨rfl, hB9, hb9⟩)
              | (go_at_call 11; refine (beq11n _ _ _ (cat rs) (tot rs) _ _ _ (cat_length rs) (by rw [cat_length]; have := HX.out.2.1; omega) (by have := HL.out; omega) (by exact hB9) (by exact .inl HE.out)).mono ?_; rintro e w10 ⟨rfl, n10, rfl⟩)
              | (go_at_call 14; refine (tail14 _ a5 a1 rs ps c5 _ hok (by exact HP6.out.1.pt.past hb9 _) (by exact HP6.out.2.2.pt.past hb9 _) HX.out.2.2.2.1 HX.out.2.2.2.2).mono ?_; rintro e w11 ⟨rfl, n11, rfl⟩)
              | (go_at_call 12; refine (nolead_any _ a5 rs c5 (by have := HL.out; omega) (by exact HP6.out.1.pt.past hb9 _) (HX.out.2.2.1)).mono ?_; rintro e w12 ⟨rfl, rfl⟩))
            go_wp2
            go_ret
            exact ⟨rfl, below_past HW.out hz6 hb9 _⟩
          · have he' : ¬ tot ps - n = 0 := by omega
            go_region_held3 (fun _ => True) (trivial) (first
              | (go_at_call 10; refine (peq10 _ a5 a6 rs c5 c6 HL.out (by exact HP6.out.1.pt) (by exact HP6.out.2.1.pt)).mono ?_; rintro e w8 ⟨rfl, n8, rfl⟩)
              | (go_at_call 8; refine (cat8 _ a5 rs c5 HL.out (by exact HP6.out.1.pt)).mono ?_; rintro e w9 ⟨rfl, hB9, hb9⟩)
              | (go_at_call 11; refine (beq11n _ _ (some ⟨w1.heap.size, n, none⟩) (cat rs) (tot rs) (tot ps - n) _ _ (cat_length rs) (by rw [cat_length]; exact HX.out.2.1) (by have := HL.out; omega) (by exact hB9) (by rw [HX.out.1]; exact Bs_from (HB6.out.past hb9 0))).mono ?_; rintro e w10 ⟨rfl, n10, rfl⟩)
              | (go_at_call 14; refine (tail14 _ a5 a1 rs ps c5 _ hok (by exact HP6.out.1.pt.past hb9 _) (by exact HP6.out.2.2.pt.past hb9 _) HX.out.2.2.2.1 HX.out.2.2.2.2).mono ?_; rintro e w11 ⟨rfl, n11, rfl⟩)
              | (go_at_call 12; refine (nolead_any _ a5 rs c5 (by have := HL.out; omega) (by exact HP6.out.1.pt.past hb9 _) (HX.out.2.2.1)).mono ?_; rintro e w12 ⟨rfl, rfl⟩))
            go_wp2
            go_ret
            exact ⟨rfl, below_past HW.out hz6 hb9 _⟩
end Go.Proofs.Qxb6626875a
