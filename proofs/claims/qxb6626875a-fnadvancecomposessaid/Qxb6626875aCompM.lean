import Derived.Test.Qxb6626875aComp
import Derived.Test.Qxb6626875aWalkA
import Derived.Deep.RegionHeld3
import Derived.Deep.DrawnRows
namespace Go.Proofs.Qxb6626875a
open Go.RowKit

attribute [local go_sem ↓] Go.wp_at_zero Go.wp_at_succ

set_option maxHeartbeats 3200000 in
theorem comp_main (w : World) (a0 : Option Addr) (ps : List (List Int)) (c x y : Nat) (hn : a0 = none → c = 0) (hok : ps.length + tot ps ≤ 1048576) (hP : Pt w a0 ps) (hsz : szB ps = true) (hxy : x + y ≤ tot ps) :
    Calls Try.prog 3 #[.slice a0 ps.length c, .int .i64 x, .int .i64 y] w fun e w' => e = .returned (.bool true) ∧ Below w.heap.size w w' := by
  have HC := bytes5 w a0 ps c x y (by unfold maxLen; omega) hP
  rw [okB_true hok] at HC
  have HH : Hid (Calls Try.prog 5 #[.slice a0 ps.length c, .int .i64 x, .int .i64 y] w fun e w' => e = .returned (.bool true) ∧ w' = w) := HC
  have HS := size6 w a0 ps c hok hP
  have hN : szN ps = tot ps := by simp [szN, hsz]
  rw [hN, hsz] at HS
  have HS' : Hid (Calls Try.prog 6 #[.slice a0 ps.length c] w fun e w' => e = .returned (.tuple #[.int .i64 (tot ps), .bool true]) ∧ w' = w) := HS
  have HL : Hid (Calls Try.prog 7 #[.slice a0 ps.length c] w fun e w' => ∃ a' c', e = .returned (.slice a' ps.length c') ∧ ps.length ≤ c' ∧ c' ≤ maxLen ∧ (a' = none → c' = 0) ∧ PtIn w' w.heap.size a' ps ∧ (ps = [] ∨ ∀ o, w'.frozen? ⟨w.heap.size, o, none⟩ = false) ∧ Below w.heap.size w w') := clone7 w a0 ps c hn hok hP
  clear HC HS hN hsz hP hn
  go_enter Try.func3, Try.ntmps3
  go_wp2_with fail
  refine HH.out.mono ?_
  rintro e w ⟨rfl, rfl⟩
  go_wp2_with fail
  refine HS'.out.mono ?_
  rintro e w ⟨rfl, rfl⟩
  clear HH HS'
  go_wp2_with fail
  refine HL.out.mono ?_
  rintro e w1 ⟨a1, c1, rfl, hc1, hm1, hn1, hP1, _, hb1⟩
  have HP1 : Hid (PtIn w1 w.heap.size a1 ps) := hP1
  have HN1 : Hid (a1 = none → c1 = 0) := hn1
  clear hP1 hn1 HL hc1 hm1
  go_wp2_with fail
  refine (cat8 w1 a1 ps c1 hok HP1.out.pt).mono ?_
  rintro e w2 ⟨rfl, hB2, hb2⟩
  have HP2 : Hid (PtIn w2 w.heap.size a1 ps) := HP1.out.below hb2
  have HB2 : Hid (Bs w2 (some ⟨w1.heap.size, 0, none⟩) (cat ps)) := hB2
  clear hB2 HP1
  go_wp2_with fail
  refine (clone7 w2 a1 ps c1 HN1.out hok HP2.out.pt).mono ?_
  rintro e w3 ⟨a3, c3, rfl, hc3, hm3, _, hP3, hf3, hb3⟩
  have HP3 : Hid (PtIn w3 w2.heap.size a3 ps ∧ (ps = [] ∨ ∀ o, w3.frozen? ⟨w2.heap.size, o, none⟩ = false)) := ⟨hP3, hf3⟩
  have HB3 : Hid (Bs w3 (some ⟨w1.heap.size, 0, none⟩) (cat ps)) := HB2.out.below hb3
  have HP2' : Hid (PtIn w3 w.heap.size a1 ps) := HP2.out.below hb3
  clear HP2 HB2 hP3 hf3
  go_wp2_with fail
  refine (clone7 w3 a1 ps c1 HN1.out hok HP2'.out.pt).mono ?_
  rintro e w4 ⟨a4, c4, rfl, hc4, hm4, _, hP4, hf4, hb4⟩
  have h23 : ps = [] ∨ w3.heap.size ≠ w2.heap.size := by
    rcases HP3.out.1.lt with h | h
    · exact .inl h
    · exact .inr (by omega)
  have HF4 : Hid ((ps = [] ∨ ∀ o, w4.frozen? ⟨w2.heap.size, o, none⟩ = false)) := by
    rcases HP3.out.2 with h | h
    · exact .inl h
    · rcases HP3.out.1.lt with h' | h'
      · exact .inl h'
      · exact .inr fun o => (hb4.frozen h').trans (h o)
  have HP4 : Hid (PtIn w4 w2.heap.size a3 ps ∧ PtIn w4 w3.heap.size a4 ps ∧ (ps = [] ∨ ∀ o, w4.frozen? ⟨w3.heap.size, o, none⟩ = false)) := ⟨HP3.out.1.below hb4, hP4, hf4⟩
  have HB4 : Hid (Bs w4 (some ⟨w1.heap.size, 0, none⟩) (cat ps)) := HB3.out.below hb4
  clear HP2' HB3 HP3 hP4 hf4 HN1
  go_wp2_with fail
  refine (adv9 w4 w2.heap.size a3 ps c3 x hok (by omega) hc3 hm3 HP4.out.1 HF4.out).mono ?_
  rintro e w5 ⟨a5, c5, rfl, hc5, hm5, hP5, hA5⟩
  have HP5 : Hid (PtIn w5 w2.heap.size a5 (adv ps x) ∧ PtIn w5 w3.heap.size a4 ps) := ⟨hP5, HP4.out.2.1.adv' hA5 h23⟩
  have HF5 : Hid ((adv ps x = [] ∨ ∀ o, w5.frozen? ⟨w2.heap.size, o, none⟩ = false) ∧ (ps = [] ∨ ∀ o, w5.frozen? ⟨w3.heap.size, o, none⟩ = false)) := ⟨frozen_same hA5 HF4.out, frozen_other HP4.out.2.1 hA5 h23 HP4.out.2.2⟩
  have HB5 : Hid (Bs w5 (some ⟨w1.heap.size, 0, none⟩) (cat ps)) := HB4.out.adv hA5
  clear HP4 HF4 HB4 hP5
  have hl5 := adv_len ps x
  have HT5 : Hid (tot (adv ps x) = tot ps - x) := adv_tot ps x
  go_wp2_with fail
  refine (adv9 w5 w2.heap.size a5 (adv ps x) c5 y (by have := HT5.out; omega) (by have := HT5.out; omega) hc5 hm5 HP5.out.1 HF5.out.1).mono ?_
  rintro e w6 ⟨a6, c6, rfl, hc6, hm6, hP6, hA6⟩
  rw [adv_adv] at hc6 hP6
  rw [adv_adv]
  have HP6 : Hid (PtIn w6 w2.heap.size a6 (adv ps (x + y)) ∧ PtIn w6 w3.heap.size a4 ps) := ⟨hP6, HP5.out.2.adv' hA6 h23⟩
  have HF6 : Hid ((ps = [] ∨ ∀ o, w6.frozen? ⟨w3.heap.size, o, none⟩ = false)) := frozen_other HP5.out.2 hA6 h23 HF5.out.2
  have HB6 : Hid (Bs w6 (some ⟨w1.heap.size, 0, none⟩) (cat ps)) := HB5.out.adv hA6
  clear HP5 HF5 HB5 hP6 HT5 hl5
  go_wp2_with fail
  rw [show (x : Int) + (y : Int) = ((x + y : Nat) : Int) by omega]
  refine (adv9 w6 w3.heap.size a4 ps c4 (x + y) hok hxy hc4 hm4 HP6.out.2 HF6.out).mono ?_
  rintro e w7 ⟨a7, c7, rfl, hc7, hm7, hP7, hA7⟩
  have HP7 : Hid (PtIn w7 w2.heap.size a6 (adv ps (x + y)) ∧ PtIn w7 w3.heap.size a7 (adv ps (x + y))) := ⟨HP6.out.1.adv' hA7 (adv_nil_ne _ h23), hP7⟩
  have HB7 : Hid (Bs w7 (some ⟨w1.heap.size, 0, none⟩) (cat ps)) := HB6.out.adv hA7
  have z1 := hb1.size
  have z2 := hb2.size
  have z3 := hb3.size
  have z4 := hb4.size
  have z5 := hA5.grown.size
  have z6 := hA6.grown.size
  have z7 := hA7.grown.size
  have HW : Hid (Below w.heap.size w w7) := hb1.trans <| (hb2.mono z1).trans <| (hb3.mono (by omega)).trans <| (hb4.mono (by omega)).trans <| (hA5.below (by omega) (by omega)).trans <| (hA6.below (by omega) (by omega)).trans (hA7.below (by omega) (by omega))
  have hz7 : w.heap.size ≤ w7.heap.size := by omega
  clear z1 z2 z3 z4 z5 z6 z7 hb1 hb2 hb3 hb4
  clear HP6 HF6 HB6 hP7 hA7 hA6 hA5
  have HL : Hid ((adv ps (x + y)).length + tot (adv ps (x + y)) ≤ 1048576) := by
    show _ ≤ _
    rw [adv_tot]; have := adv_len ps (x + y); omega
  have HX : Hid (cat (adv ps (x + y)) = (cat ps).drop (x + y) ∧ tot (adv ps (x + y)) = tot ps - (x + y) ∧ (adv ps (x + y) = [] ∨ 0 < (part (adv ps (x + y)) 0).length)) := ⟨adv_cat _ _, adv_tot _ _, adv_lead _ _⟩
  generalize adv ps (x + y) = rs at *
  clear h23
  go_wp2_with fail
  have hx0 : (0 : Int) ≤ (x : Int) + (y : Int) := by omega
  have hx1 : (x : Int) + (y : Int) ≤ (tot ps : Int) := by omega
  have hwr : IntKind.i64.wrap ((x : Int) + (y : Int)) = (x : Int) + (y : Int) := by rw [IntKind.wrap_i64]; omega
  have htn : ((x : Int) + (y : Int)).toNat = x + y := by omega
  by_cases he : tot ps = x + y
  · have he' : tot ps - (x + y) = 0 := by omega
    have HE : Hid (cat rs = []) := List.eq_nil_of_length_eq_zero (by rw [cat_length, HX.out.2.1]; omega)
    clear he'
    go_region_held3 (fun _ => True) (trivial) (first
      | (go_at_call 10; refine (peq10 _ a6 a7 rs c6 c7 HL.out (by exact HP7.out.1.pt) (by exact HP7.out.2.pt)).mono ?_; rintro e w8 ⟨rfl, n8, rfl⟩)
      | (go_at_call 8; refine (cat8 _ a7 rs c7 HL.out (by exact HP7.out.2.pt)).mono ?_; rintro e w9 ⟨rfl, hB9, hb9⟩)
      | (go_at_call 11; refine (beq11n _ _ _ (cat rs) (tot rs) _ _ _ (cat_length rs) (by rw [cat_length]; have := HX.out.2.1; omega) (by have := HL.out; omega) (by exact hB9) (by exact .inl HE.out)).mono ?_; rintro e w10 ⟨rfl, n10, rfl⟩)
      | (go_at_call 12; refine (nolead_any _ a7 rs c7 (by have := HL.out; omega) (by exact HP7.out.2.pt.past hb9 _) (HX.out.2.2)).mono ?_; rintro e w11 ⟨rfl, rfl⟩))
    go_wp2
    go_ret
    exact ⟨rfl, below_past HW.out hz7 hb9 _⟩
  · have he' : ¬ tot ps - (x + y) = 0 := by omega
    go_region_held3 (fun _ => True) (trivial) (first
      | (go_at_call 10; refine (peq10 _ a6 a7 rs c6 c7 HL.out (by exact HP7.out.1.pt) (by exact HP7.out.2.pt)).mono ?_; rintro e w8 ⟨rfl, n8, rfl⟩)
      | (go_at_call 8; refine (cat8 _ a7 rs c7 HL.out (by exact HP7.out.2.pt)).mono ?_; rintro e w9 ⟨rfl, hB9, hb9⟩)
      | (go_at_call 11; refine (beq11n _ _ (some ⟨w1.heap.size, x + y, none⟩) (cat rs) (tot rs) (tot ps - (x + y)) _ _ (cat_length rs) (by rw [cat_length]; exact HX.out.2.1) (by have := HL.out; omega) (by exact hB9) (by rw [HX.out.1]; exact Bs_from (HB7.out.past hb9 0))).mono ?_; rintro e w10 ⟨rfl, n10, rfl⟩)
      | (go_at_call 12; refine (nolead_any _ a7 rs c7 (by have := HL.out; omega) (by exact HP7.out.2.pt.past hb9 _) (HX.out.2.2)).mono ?_; rintro e w11 ⟨rfl, rfl⟩))
    go_wp2
    go_ret
    exact ⟨rfl, below_past HW.out hz7 hb9 _⟩
end Go.Proofs.Qxb6626875a
