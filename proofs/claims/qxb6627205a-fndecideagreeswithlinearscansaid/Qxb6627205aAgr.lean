import Derived.Test.Qxb6627205aPol
import Derived.Test.Qxb6627205aByx
namespace Go.Proofs.Qxb6627205a
open Go.RowKit Go.Maps

attribute [local go_sem ↓] Go.wp_at_zero Go.wp_at_succ

set_option maxRecDepth 100000 in
set_option maxHeartbeats 4000000 in
theorem agrees3 (w : World) (a : Option Addr) (deny : List Rule) (c : Nat) (a2 : Option Addr) (allow : List Rule) (c2 : Nat) (hR : Rl w a deny) (hR2 : Rl w a2 allow) (hd : deny.length ≤ maxLen) (ha : allow.length ≤ maxLen) (a' : Option Addr) (vs : List ByteArray) (c' : Nat) (hS : Ss w a' vs) (hl : vs.length ≤ maxLen) (m : ByteArray) (hm : m.size ≤ maxLen) :
    Calls Try.prog 3 #[.slice a deny.length c, .slice a2 allow.length c2, .slice a' vs.length c', .string m] w fun e w' => e = .returned (.bool true) ∧ Below w.heap.size w w' := by
  have HM : Hid (Rl w a deny ∧ Rl w a2 allow ∧ Ss w a' vs) := ⟨hR, hR2, hS⟩
  have HLN : Hid (deny.length ≤ maxLen ∧ allow.length ≤ maxLen ∧ vs.length ≤ maxLen ∧ m.size ≤ maxLen) := ⟨hd, ha, hl, hm⟩
  unfold maxLen at hd ha hl hm
  clear hR hR2 hS
  go_enter Try.func3, Try.ntmps3
  go_wp2_with fail
  refine (bytes5 _ a deny c a2 allow c2 HM.out.1 HM.out.2.1 HLN.out.1 HLN.out.2.1 a' vs c' HM.out.2.2 HLN.out.2.2.1 m HLN.out.2.2.2).mono ?_
  rintro e w1 ⟨⟨b, rfl⟩, rfl⟩
  cases b with
  | false =>
    go_wp2
    go_ret
    exact ⟨rfl, Below.refl _ _⟩
  | true =>
    by_cases hms : 1048576 < m.size
    · have hmsi : (1048576 : Int) < (m.size : Int) := by omega
      go_wp2
      go_ret
      exact ⟨rfl, Below.refl _ _⟩
    have hmsi : (m.size : Int) ≤ (1048576 : Int) := by omega
    go_wp2_with fail
    refine (rules6 _ a deny c m.size HLN.out.1 (by omega) HM.out.1).mono ?_
    rintro e wA ⟨⟨r1, rfl, hr1, hc1⟩, hbA⟩
    have HC1 : Hid (r1 = m.size + costR deny ∨ 1048576 < r1) := hc1
    have HBA : Hid (Below w1.heap.size w1 wA) := hbA
    clear hc1 hbA
    go_wp2_with fail
    refine (rules6 _ a2 allow c2 r1 HLN.out.2.1 hr1 (HM.out.2.1.below HBA.out)).mono ?_
    rintro e wB ⟨⟨r2, rfl, hr2, hc2⟩, hbB⟩
    have HC2 : Hid (r2 = r1 + costR allow ∨ 1048576 < r2) := hc2
    have HBB : Hid (Below w1.heap.size w1 wB) := HBA.out.trans (hbB.mono HBA.out.size)
    clear hc2 hbB
    go_wp2_with fail
    refine (strs7 _ a' vs c' r2 HLN.out.2.2.1 hr2 (HM.out.2.2.below HBB.out)).mono ?_
    rintro e wC ⟨⟨r3, rfl, hr3, hc3⟩, rfl⟩
    have HC3 : Hid (r3 = r2 + costS vs ∨ 1048576 < r3) := hc3
    clear hc3
    by_cases hbig : 1048576 < r3
    · have hbigi : (1048576 : Int) < (r3 : Int) := by omega
      go_wp2
      go_ret
      exact ⟨rfl, HBB.out⟩
    have hbigi : (r3 : Int) ≤ (1048576 : Int) := by omega
    have HSZ : Hid (Sized deny ∧ Sized allow ∧ vs.length ≤ 1048576) := by
      have h1 := HC1.out
      have h2 := HC2.out
      have h3 := HC3.out
      have h4 := costS_len vs
      exact ⟨sized_of (by omega), sized_of (by omega), by omega⟩
    go_wp2_with fail
    refine (forms8 _ a deny c HLN.out.1 (HM.out.1.below HBB.out)).mono ?_
    rintro e wD ⟨⟨b1, rfl⟩, rfl⟩
    cases b1 with
    | false =>
      go_wp2
      go_ret
      exact ⟨rfl, HBB.out⟩
    | true =>
      go_wp2_with fail
      refine (forms8 _ a2 allow c2 HLN.out.2.1 (HM.out.2.1.below HBB.out)).mono ?_
      rintro e wD ⟨⟨b2, rfl⟩, rfl⟩
      cases b2 with
      | false =>
        go_wp2
        go_ret
        exact ⟨rfl, HBB.out⟩
      | true =>
        go_wp2_with fail
        refine (list10 _ a deny c HSZ.out.1 (HM.out.1.below HBB.out)).mono ?_
        rintro e wE ⟨v1, rfl, hv1, hbE⟩
        have HV1 : Hid (LV wE deny v1) := hv1
        have HBE : Hid (Below w1.heap.size w1 wE) := HBB.out.trans (hbE.mono HBB.out.size)
        clear hv1 hbE
        go_wp2_with fail
        refine (list10 _ a2 allow c2 HSZ.out.2.1 (HM.out.2.1.below HBE.out)).mono ?_
        rintro e wF ⟨v2, rfl, hv2, hbF⟩
        have HV2 : Hid (LV wF deny v1 ∧ LV wF allow v2) := ⟨HV1.out.below hbF, hv2⟩
        have HBF : Hid (Below w1.heap.size w1 wF) := HBE.out.trans (hbF.mono HBE.out.size)
        clear hv2 hbF HV1
        go_wp2_with fail
        refine (pol9 _ v1 v2 deny allow HV2.out.1 HV2.out.2).mono ?_
        rintro e wG ⟨g, rfl, hm1, hm2, hbG⟩
        have HMM : Hid (LM wG g 0 deny ∧ LM wG g 15 allow) := ⟨hm1, hm2⟩
        have HBG : Hid (Below w1.heap.size w1 wG) := HBF.out.trans (hbG.mono HBF.out.size)
        clear hm1 hm2 hbG
        go_wp2_with fail
        refine (decide11 _ g deny allow HMM.out.1 HMM.out.2 a' vs c' (HM.out.2.2.below HBG.out) HSZ.out.2.2 m HLN.out.2.2.2).mono ?_
        obtain ⟨vb, vn⟩ : ∃ x, x = verdict deny allow vs m := ⟨_, rfl⟩
        rw [← vn]
        have HVN : Hid (vb = verdict deny allow vs m) := vn
        clear vn
        obtain ⟨vb, vn⟩ := vb
        rintro e wH ⟨rfl, hbH⟩
        have HBH : Hid (Below w1.heap.size w1 wH) := HBG.out.trans (hbH.mono HBG.out.size)
        clear hbH
        go_wp2_with fail
        have HBI : Hid (Below w1.heap.size w1 (wH.alloc (.cells #[.bool vb, .string vn] 39))) := HBH.out.alloc HBH.out.size _
        have HC0 : Hid ((wH.alloc (.cells #[.bool vb, .string vn] 39)).heap[wH.heap.size]? = some (.cells #[.bool vb, .string vn] 39)) := new_block _ _
        generalize wH.alloc (.cells #[.bool vb, .string vn] 39) = wI at *
        generalize wH.heap.size = N at *
        refine (model12 _ a deny c a2 allow c2 (HM.out.1.below HBI.out) (HM.out.2.1.below HBI.out) HSZ.out.1.len HSZ.out.2.1.len a' vs c' (HM.out.2.2.below HBI.out) HSZ.out.2.2 m HLN.out.2.2.2).mono ?_
        rw [← HVN.out]
        rintro e wJ ⟨rfl, hbJ⟩
        have HBJ : Hid (Below w1.heap.size w1 wJ) := HBI.out.trans (hbJ.mono HBI.out.size)
        have hz : wJ.heap[N]? = some (.cells #[.bool vb, .string vn] 39) := (hbJ.block N (Array.getElem?_eq_some_iff.1 HC0.out).1).trans HC0.out
        have d0 := cell_in hz 0
        have d1 := cell_in hz 1
        clear hz hbJ
        simp only [List.getElem?_toArray, List.getElem?_cons_zero, List.getElem?_cons_succ] at d0 d1
        go_wp2
        go_ret
        exact ⟨rfl, HBJ.out⟩
end Go.Proofs.Qxb6627205a
