import Derived.Test.Qxb6627205aLed
import Derived.Test.Qxb6627205aBzb
namespace Go.Proofs.Qxb6627205a
open Go.RowKit Go.Maps

attribute [local go_sem ↓] Go.wp_at_zero Go.wp_at_succ

set_option maxRecDepth 100000 in
set_option maxHeartbeats 8000000 in
theorem lead4 (w : World) (r : Rule) (A1 : Option Addr) (C1 : Nat) (A2 : Option Addr) (C2 : Nat) (p1 : Ps w A1 r.pr) (p2 : Ps w A2 r.pa) (n1 : r.name.size ≤ maxLen) (n2 : r.pr.length ≤ maxLen) (n3 : r.pa.length ≤ maxLen) (a : Option Addr) (deny : List Rule) (c : Nat) (a2 : Option Addr) (allow : List Rule) (c2 : Nat) (hR : Rl w a deny) (hR2 : Rl w a2 allow) (hd : deny.length ≤ maxLen) (ha : allow.length ≤ maxLen) (a' : Option Addr) (vs : List ByteArray) (c' : Nat) (hS : Ss w a' vs) (hl : vs.length ≤ maxLen) (m : ByteArray) (hm : m.size ≤ maxLen) :
    Calls Try.prog 4 #[.agg #[.string r.name, .slice A1 r.pr.length C1, .slice A2 r.pa.length C2], .slice a deny.length c, .slice a2 allow.length c2, .slice a' vs.length c', .string m] w fun e w' => e = .returned (.bool true) ∧ Below w.heap.size w w' := by
  obtain ⟨i0, hi, hz0, hz1, hz2⟩ := info_parts Try.info45
  have HLN : Hid (deny.length ≤ maxLen ∧ allow.length ≤ maxLen ∧ vs.length ≤ maxLen ∧ m.size ≤ maxLen) := ⟨hd, ha, hl, hm⟩
  have HRN : Hid (r.name.size ≤ maxLen ∧ r.pr.length ≤ maxLen ∧ r.pa.length ≤ maxLen) := ⟨n1, n2, n3⟩
  have HBW : Hid (Below w.heap.size w (w.alloc (.cells #[.string r.name, .slice A1 r.pr.length C1, .slice A2 r.pa.length C2] 45))) := (Below.refl _ _).alloc (Nat.le_refl _) _
  have HC0 : Hid ((w.alloc (.cells #[.string r.name, .slice A1 r.pr.length C1, .slice A2 r.pa.length C2] 45)).heap[w.heap.size]? = some (.cells #[.string r.name, .slice A1 r.pr.length C1, .slice A2 r.pa.length C2] 45)) := new_block _ _
  have HM : Hid (Rl (w.alloc (.cells #[.string r.name, .slice A1 r.pr.length C1, .slice A2 r.pa.length C2] 45)) a deny ∧ Rl (w.alloc (.cells #[.string r.name, .slice A1 r.pr.length C1, .slice A2 r.pa.length C2] 45)) a2 allow ∧ Ss (w.alloc (.cells #[.string r.name, .slice A1 r.pr.length C1, .slice A2 r.pa.length C2] 45)) a' vs ∧ Ps (w.alloc (.cells #[.string r.name, .slice A1 r.pr.length C1, .slice A2 r.pa.length C2] 45)) A1 r.pr ∧ Ps (w.alloc (.cells #[.string r.name, .slice A1 r.pr.length C1, .slice A2 r.pa.length C2] 45)) A2 r.pa) := ⟨hR.below HBW.out, hR2.below HBW.out, hS.below HBW.out, p1.below HBW.out, p2.below HBW.out⟩
  unfold maxLen at hd ha hl hm n1 n2 n3
  clear hR hR2 hS p1 p2
  go_enter Try.func4, Try.ntmps4
  go_upto_region 1 with fail
  generalize (w.alloc (.cells #[.string r.name, .slice A1 r.pr.length C1, .slice A2 r.pa.length C2] 45)) = W0 at *
  generalize w.heap.size = N at HC0 ⊢
  have HQ : Hid (∀ w', Below W0.heap.size W0 w' → w'.cell? ⟨N, 0, none⟩ = some (.string r.name) ∧ w'.cell? ⟨N, 1, none⟩ = some (.slice A1 r.pr.length C1) ∧ w'.cell? ⟨N, 2, none⟩ = some (.slice A2 r.pa.length C2)) := fun w' h => by
    have hz : w'.heap[N]? = some (.cells #[.string r.name, .slice A1 r.pr.length C1, .slice A2 r.pa.length C2] 45) := (h.block N (Array.getElem?_eq_some_iff.1 HC0.out).1).trans HC0.out
    exact ⟨cell_in hz 0, cell_in hz 1, cell_in hz 2⟩
  clear HC0
  obtain ⟨q0, q1, q2⟩ := HQ.out _ (Below.refl _ _)
  go_wp2_with fail
  refine (bytes13 _ r A1 C1 A2 C2 HM.out.2.2.2.1 HM.out.2.2.2.2 HRN.out.1 HRN.out.2.1 HRN.out.2.2 a deny c a2 allow c2 HM.out.1 HM.out.2.1 HLN.out.1 HLN.out.2.1 a' vs c' HM.out.2.2.1 HLN.out.2.2.1 m HLN.out.2.2.2).mono ?_
  rintro e w1 ⟨⟨b, rfl⟩, hb1⟩
  have HB1 : Hid (Below W0.heap.size W0 w1) := hb1
  clear hb1 q0 q1 q2
  cases b with
  | false =>
    go_wp2
    go_ret
    exact ⟨rfl, HBW.out.trans (HB1.out.mono HBW.out.size)⟩
  | true =>
  by_cases hms : 1048576 < m.size
  · have hmsi : (1048576 : Int) < (m.size : Int) := by omega
    go_wp2
    go_ret
    exact ⟨rfl, HBW.out.trans (HB1.out.mono HBW.out.size)⟩
  have hmsi : (m.size : Int) ≤ (1048576 : Int) := by omega
  obtain ⟨q0, q1, q2⟩ := HQ.out _ HB1.out
  go_wp2_with fail
  refine (one14 _ r A1 A2 C1 C2 m.size (by omega) (HM.out.2.2.2.1.below HB1.out) (HM.out.2.2.2.2.below HB1.out) HRN.out.1 HRN.out.2.1 HRN.out.2.2).mono ?_
  rintro e wZ ⟨⟨r0, rfl, hr0, hc0⟩, hbZ⟩
  have HC0 : Hid (r0 = m.size + costR1 r ∨ 1048576 < r0) := hc0
  have HBZ : Hid (Below W0.heap.size W0 wZ) := HB1.out.trans (hbZ.mono HB1.out.size)
  clear hc0 hbZ q0 q1 q2
  go_wp2_with fail
  refine (rules6 _ a deny c r0 HLN.out.1 hr0 (HM.out.1.below HBZ.out)).mono ?_
  rintro e wA ⟨⟨r1, rfl, hr1, hc1⟩, hbA⟩
  have HC1 : Hid (r1 = r0 + costR deny ∨ 1048576 < r1) := hc1
  have HBA : Hid (Below W0.heap.size W0 wA) := HBZ.out.trans (hbA.mono HBZ.out.size)
  clear hc1 hbA
  go_wp2_with fail
  refine (rules6 _ a2 allow c2 r1 HLN.out.2.1 hr1 (HM.out.2.1.below HBA.out)).mono ?_
  rintro e wB ⟨⟨r2, rfl, hr2, hc2⟩, hbB⟩
  have HC2 : Hid (r2 = r1 + costR allow ∨ 1048576 < r2) := hc2
  have HBB : Hid (Below W0.heap.size W0 wB) := HBA.out.trans (hbB.mono HBA.out.size)
  clear hc2 hbB
  go_wp2_with fail
  refine (strs7 _ a' vs c' r2 HLN.out.2.2.1 hr2 (HM.out.2.2.1.below HBB.out)).mono ?_
  rintro e wC ⟨⟨r3, rfl, hr3, hc3⟩, rfl⟩
  have HC3 : Hid (r3 = r2 + costS vs ∨ 1048576 < r3) := hc3
  clear hc3
  by_cases hbig : 1048576 < r3
  · have hbigi : (1048576 : Int) < (r3 : Int) := by omega
    go_wp2
    go_ret
    exact ⟨rfl, HBW.out.trans (HBB.out.mono HBW.out.size)⟩
  have hbigi : (r3 : Int) ≤ (1048576 : Int) := by omega
  have HSZ : Hid (Sized deny ∧ Sized allow ∧ vs.length ≤ 1048576 ∧ Sized (r :: deny)) := by
    have h0 := HC0.out
    have h1 := HC1.out
    have h2 := HC2.out
    have h3 := HC3.out
    have h4 := costS_len vs
    have h5 : costR (r :: deny) = costR1 r + costR deny := rfl
    exact ⟨sized_of (by omega), sized_of (by omega), by omega, sized_of (by omega)⟩
  obtain ⟨q0, q1, q2⟩ := HQ.out _ HBB.out
  go_wp2_with fail
  refine (forms15 _ A1 r.pr C1 HRN.out.2.1 (HM.out.2.2.2.1.below HBB.out)).mono ?_
  rintro e wD ⟨⟨b0, rfl⟩, rfl⟩
  cases b0 with
  | false =>
    go_wp2
    go_ret
    exact ⟨rfl, HBW.out.trans (HBB.out.mono HBW.out.size)⟩
  | true =>
  go_wp2_with fail
  refine (forms15 _ A2 r.pa C2 HRN.out.2.2 (HM.out.2.2.2.2.below HBB.out)).mono ?_
  rintro e wD ⟨⟨b0, rfl⟩, rfl⟩
  cases b0 with
  | false =>
    go_wp2
    go_ret
    exact ⟨rfl, HBW.out.trans (HBB.out.mono HBW.out.size)⟩
  | true =>
  go_wp2_with fail
  refine (forms8 _ a deny c HLN.out.1 (HM.out.1.below HBB.out)).mono ?_
  rintro e wD ⟨⟨b1, rfl⟩, rfl⟩
  cases b1 with
  | false =>
    go_wp2
    go_ret
    exact ⟨rfl, HBW.out.trans (HBB.out.mono HBW.out.size)⟩
  | true =>
  go_wp2_with fail
  refine (forms8 _ a2 allow c2 HLN.out.2.1 (HM.out.2.1.below HBB.out)).mono ?_
  rintro e wD ⟨⟨b2, rfl⟩, rfl⟩
  cases b2 with
  | false =>
    go_wp2
    go_ret
    exact ⟨rfl, HBW.out.trans (HBB.out.mono HBW.out.size)⟩
  | true =>
  have hdl : deny.length ≤ 1048576 := HSZ.out.1.len
  obtain ⟨wM, hmk, hown, hgrM⟩ := run_make_own (P := Try.prog) wD W0.heap.size 22 45 i0 _ 3 Try.underlying22 hi hz0 hz1 .i64 .i64 (deny.length + 1) (by rw [hz2]; omega) (by unfold maxLen; omega) HBB.out.size
  rw [show ((deny.length + 1 : Nat) : Int) = (deny.length : Int) + 1 by omega] at hmk
  have HOM : Hid (wM.ownsRow W0.heap.size 45 3 (.slice (some ⟨wD.heap.size, 0, none⟩) 0 (deny.length + 1)) 0 []) := hown
  have HBM : Hid (Below W0.heap.size W0 wM) := HBB.out.grown hgrM HBB.out.size (fun q hq => by cases hq)
  clear hown hgrM q0 q1 q2
  obtain ⟨q0, q1, q2⟩ := HQ.out _ HBM.out
  generalize wD.heap.size = GM at *
  go_wp2_with (first
    | (at_builtin; refine wpList_append_lies _ rfl _ _ 22 rfl W0.heap.size 45 i0 _ 3 64 Try.underlying22 hi hz0 hz1 hz2 rfl (by omega) (.slice (some ⟨GM, 0, none⟩) 0 (deny.length + 1)) 0 [] rfl (by exact HOM.out.alloc _) ⟨wM.heap.size, 0, none⟩ 1 1 [.string r.name, .slice A1 r.pr.length C1, .slice A2 r.pa.length C2] rfl rfl (by exact news3 wM _ _ _ _) (by intro u hu; simp at hu; rcases hu with rfl | rfl | rfl <;> rfl) (by omega) (by unfold maxLen; omega) (by omega) (by have := HBM.out.size; simp; omega) (wM.heap.size + 1) (by simp) ?_; intro g1 cap1 wP hownP hgrP hatP hltP))
  have HOP : Hid (wP.ownsRow W0.heap.size 45 3 (.slice (some ⟨g1, 0, none⟩) 1 cap1) 1 [.string r.name, .slice A1 r.pr.length C1, .slice A2 r.pa.length C2]) := hownP
  have HRW0 : Hid (Rw3 W0 [.string r.name, .slice A1 r.pr.length C1, .slice A2 r.pa.length C2] (r :: deny) 1) := rw3_next (k := 0) (xs := []) rfl (fun i q h => absurd h (Nat.not_lt_zero _)) rfl HM.out.2.2.2.1 HM.out.2.2.2.2 HRN.out
  have HBP : Hid (Below W0.heap.size W0 wP) := (HBM.out.alloc HBM.out.size _).grown hgrP (by have := HBM.out.size; simp; omega) (fun q hq => (HOM.out.lt q hq).1)
  clear hownP hgrP hatP hltP q0 q1 q2 hmk
  go_wp2
  go_loopg [12, 13] (deny.length + 1) (fun gk v i wr => ∃ (k : Nat) (xs : List Value), k ≤ deny.length ∧ gk = deny.length + 1 - k ∧ i = .int .i64 k ∧ Hid (wr.ownsRow W0.heap.size 45 3 v (k + 1) xs) ∧ Hid (Rw3 W0 xs (r :: deny) (k + 1)) ∧ Hid (Below W0.heap.size W0 wr))
  case atStart => exact ⟨0, _, Nat.zero_le _, rfl, rfl, HOP, HRW0, HBP⟩
  case round =>
    obtain ⟨k, xs, hk, rfl, rfl, HOW, HRW, HB⟩ := hrel
    by_cases hkl : k < deny.length
    · have hkl' : (k : Int) < (deny.length : Int) := by omega
      obtain ⟨b, o, p, haA, hpk, B1, D1, B2, D2, e1, e2, e3, hp1, hp2, hn⟩ : ∃ b o p, a = some ⟨b, o, none⟩ ∧ deny[k]? = some p ∧ R1 W0 b (o + k * 3) p := by
        rcases HM.out.1 with h | ⟨b, o, h1, h2⟩
        · simp [h] at hkl
        · exact ⟨b, o, deny[k], h1, List.getElem?_eq_getElem hkl, h2 k _ (List.getElem?_eq_getElem hkl)⟩
      subst haA
      have HPK : Hid (deny[k]? = some p) := hpk
      have HPP : Hid (Ps W0 B1 p.pr ∧ Ps W0 B2 p.pa) := ⟨hp1, hp2⟩
      have HPN : Hid (p.name.size ≤ maxLen ∧ p.pr.length ≤ maxLen ∧ p.pa.length ≤ maxLen) := hn
      have d1 : wr.cell? ⟨b, o + k * 3, none⟩ = some (.string p.name) := (HB.out.cell (block_lt_of_cell e1)).trans e1
      have d2 : wr.cell? ⟨b, o + k * 3 + 1, none⟩ = some (.slice B1 p.pr.length D1) := (HB.out.cell (block_lt_of_cell e2)).trans e2
      have d3 : wr.cell? ⟨b, o + k * 3 + 2, none⟩ = some (.slice B2 p.pa.length D2) := (HB.out.cell (block_lt_of_cell e3)).trans e3
      clear hpk hp1 hp2 hn e1 e2 e3
      go_wp2_with (first
        | (at_builtin; refine wpList_append_lies _ rfl _ _ 22 rfl W0.heap.size 45 i0 _ 3 64 Try.underlying22 hi hz0 hz1 hz2 rfl (by omega) u12 (k + 1) xs rfl (by exact HOW.out.alloc _) ⟨wr.heap.size, 0, none⟩ 1 1 [.string p.name, .slice B1 p.pr.length D1, .slice B2 p.pa.length D2] rfl rfl (by exact news3 wr _ _ _ _) (by intro u hu; simp at hu; rcases hu with rfl | rfl | rfl <;> rfl) (by omega) (by unfold maxLen; omega) (by omega) (by have := HB.out.size; simp; omega) (wr.heap.size + 1) (by simp) ?_; intro g cap w5 hown5 hgrow5 hat5 hlt5))
      have HB5 : Hid (Below W0.heap.size W0 w5) := (HB.out.alloc HB.out.size _).grown hgrow5 (by have := HB.out.size; simp; omega) (fun q hq => (HOW.out.lt q hq).1)
      have HO5 : Hid (w5.ownsRow W0.heap.size 45 3 (.slice (some ⟨g, 0, none⟩) (k + 1 + 1) cap) (k + 1 + 1) (xs ++ [.string p.name, .slice B1 p.pr.length D1, .slice B2 p.pa.length D2])) := hown5
      have HR5 : Hid (Rw3 W0 (xs ++ [.string p.name, .slice B1 p.pr.length D1, .slice B2 p.pa.length D2]) (r :: deny) (k + 1 + 1)) := rw3_next HOW.out.1 HRW.out (by rw [List.getElem?_cons_succ]; exact HPK.out) HPP.out.1 HPP.out.2 HPN.out
      clear hown5 hgrow5 hat5 hlt5 d1 d2 d3
      go_wp2
      go_roundg (deny.length + 1 - (k + 1))
      case rel => exact ⟨k + 1, _, by omega, rfl, by go_num, HO5, HR5, HB5⟩
      case measure => omega
    · have hke : k = deny.length := by omega
      subst hke
      obtain ⟨LA, LC, hLA, hLR⟩ := rl_of_own (rs := r :: deny) HOW.out HRW.out HB.out
      subst hLA
      have HLR : Hid (Rl wr LA (r :: deny)) := hLR
      clear hLR HOW HRW
      rw [show (r :: deny).length = deny.length + 1 from rfl] at *
      go_wp2_with fail
      refine (list10 _ a deny c HSZ.out.1 (HM.out.1.below HB.out)).mono ?_
      rintro e wE ⟨v1, rfl, hv1, hbE⟩
      have HV1 : Hid (LV wE deny v1) := hv1
      have HBE : Hid (Below wr.heap.size wr wE) := hbE
      clear hv1 hbE
      go_wp2_with fail
      refine (list10 _ a2 allow c2 HSZ.out.2.1 (HM.out.2.1.below (HB.out.trans (HBE.out.mono HB.out.size)))).mono ?_
      rintro e wF ⟨v2, rfl, hv2, hbF⟩
      have HV2 : Hid (LV wF deny v1 ∧ LV wF allow v2) := ⟨HV1.out.below hbF, hv2⟩
      have HBF : Hid (Below wr.heap.size wr wF) := HBE.out.trans (hbF.mono HBE.out.size)
      clear hv2 hbF HV1
      go_wp2_with fail
      refine (pol9 _ v1 v2 deny allow HV2.out.1 HV2.out.2).mono ?_
      rintro e wG ⟨g, rfl, hm1, hm2, hbG⟩
      have HMM : Hid (LM wG g 0 deny ∧ LM wG g 15 allow) := ⟨hm1, hm2⟩
      have HBG : Hid (Below wr.heap.size wr wG) := HBF.out.trans (hbG.mono HBF.out.size)
      clear hm1 hm2 hbG
      go_wp2_with fail
      refine (decide11 _ g deny allow HMM.out.1 HMM.out.2 a' vs c' (HM.out.2.2.1.below (HB.out.trans (HBG.out.mono HB.out.size))) HSZ.out.2.2.1 m HLN.out.2.2.2).mono ?_
      obtain ⟨vd, vdd⟩ : ∃ x, x = verdict deny allow vs m := ⟨_, rfl⟩
      rw [← vdd]
      have HVD : Hid (vd = verdict deny allow vs m) := vdd
      clear vdd
      obtain ⟨vb, vn⟩ := vd
      rintro e wH ⟨rfl, hbH⟩
      have HBH : Hid (Below wr.heap.size wr wH) := HBG.out.trans (hbH.mono HBG.out.size)
      clear hbH
      go_wp2_with fail
      have HBI : Hid (Below wr.heap.size wr (wH.alloc (.cells #[.bool vb, .string vn] 39))) := HBH.out.alloc HBH.out.size _
      have HCI : Hid ((wH.alloc (.cells #[.bool vb, .string vn] 39)).heap[wH.heap.size]? = some (.cells #[.bool vb, .string vn] 39)) := new_block _ _
      generalize wH.alloc (.cells #[.bool vb, .string vn] 39) = wI at *
      generalize wH.heap.size = N1 at *
      refine (list10 _ LA (r :: deny) LC HSZ.out.2.2.2 (HLR.out.below HBI.out)).mono ?_
      rintro e wE' ⟨v1', rfl, hv1, hbE⟩
      have HV1 : Hid (LV wE' (r :: deny) v1') := hv1
      have HBE' : Hid (Below wI.heap.size wI wE') := hbE
      clear hv1 hbE
      go_wp2_with fail
      refine (list10 _ a2 allow c2 HSZ.out.2.1 (HM.out.2.1.below (HB.out.trans ((HBI.out.trans (HBE'.out.mono HBI.out.size)).mono HB.out.size)))).mono ?_
      rintro e wF' ⟨v2', rfl, hv2, hbF⟩
      have HV2' : Hid (LV wF' (r :: deny) v1' ∧ LV wF' allow v2') := ⟨HV1.out.below hbF, hv2⟩
      have HBF' : Hid (Below wI.heap.size wI wF') := HBE'.out.trans (hbF.mono HBE'.out.size)
      clear hv2 hbF HV1
      go_wp2_with fail
      refine (pol9 _ v1' v2' (r :: deny) allow HV2'.out.1 HV2'.out.2).mono ?_
      rintro e wG' ⟨g', rfl, hm1, hm2, hbG⟩
      have HMM' : Hid (LM wG' g' 0 (r :: deny) ∧ LM wG' g' 15 allow) := ⟨hm1, hm2⟩
      have HBG' : Hid (Below wI.heap.size wI wG') := HBF'.out.trans (hbG.mono HBF'.out.size)
      clear hm1 hm2 hbG
      go_wp2_with fail
      refine (decide11 _ g' (r :: deny) allow HMM'.out.1 HMM'.out.2 a' vs c' (HM.out.2.2.1.below (HB.out.trans ((HBI.out.trans (HBG'.out.mono HBI.out.size)).mono HB.out.size))) HSZ.out.2.2.1 m HLN.out.2.2.2).mono ?_
      obtain ⟨vd, vdd⟩ : ∃ x, x = verdict (r :: deny) allow vs m := ⟨_, rfl⟩
      rw [← vdd]
      have HVE : Hid (vd = verdict (r :: deny) allow vs m) := vdd
      clear vdd
      obtain ⟨xb, xn⟩ := vd
      rintro e wH' ⟨rfl, hbH⟩
      have HBH' : Hid (Below wI.heap.size wI wH') := HBG'.out.trans (hbH.mono HBG'.out.size)
      clear hbH
      go_upto_region 21 with fail
      have HBJ : Hid (Below wI.heap.size wI (wH'.alloc (.cells #[.bool xb, .string xn] 39))) := HBH'.out.alloc HBH'.out.size _
      have HCJ : Hid ((wH'.alloc (.cells #[.bool xb, .string xn] 39)).heap[wH'.heap.size]? = some (.cells #[.bool xb, .string xn] 39)) := new_block _ _
      generalize wH'.alloc (.cells #[.bool xb, .string xn] 39) = wJ at *
      generalize wH'.heap.size = N2 at *
      have HBL : Hid (Below W0.heap.size W0 wJ) := HB.out.trans ((HBI.out.trans (HBJ.out.mono HBI.out.size)).mono HB.out.size)
      obtain ⟨q0, q1, q2⟩ := HQ.out _ HBL.out
      go_wp2_with fail
      refine (rule16 _ r A1 A2 a' C1 C2 c' vs m (HM.out.2.2.2.1.below HBL.out) (HM.out.2.2.2.2.below HBL.out) HRN.out.2.1 HRN.out.2.2 HLN.out.2.2.1 HLN.out.2.2.2 (HM.out.2.2.1.below HBL.out)).mono ?_
      rintro e wK ⟨rfl, hbK⟩
      have HBK : Hid (Below W0.heap.size W0 wK) := HBL.out.trans (hbK.mono HBL.out.size)
      have hz1' : wK.heap[N2]? = some (.cells #[.bool xb, .string xn] 39) := (hbK.block N2 (Array.getElem?_eq_some_iff.1 HCJ.out).1).trans HCJ.out
      have hz2' : wK.heap[N1]? = some (.cells #[.bool vb, .string vn] 39) := ((HBJ.out.trans (hbK.mono HBJ.out.size)).block N1 (Array.getElem?_eq_some_iff.1 HCI.out).1).trans HCI.out
      have d0 := cell_in hz1' 0
      have d1 := cell_in hz1' 1
      have d2 := cell_in hz2' 0
      have d3 := cell_in hz2' 1
      simp only [List.getElem?_toArray, List.getElem?_cons_zero, List.getElem?_cons_succ] at d0 d1 d2 d3
      clear hz1' hz2' hbK q0 q1 q2
      obtain ⟨q0, q1, q2⟩ := HQ.out _ HBK.out
      cases hro : ruleOK vs m r with
      | true =>
        have hv := HVE.out
        rw [verdict_lead hro] at hv
        obtain ⟨rfl, rfl⟩ := Prod.mk.inj hv
        clear hv
        go_wp2
        go_ret
        exact ⟨rfl, HBW.out.trans (HBK.out.mono HBW.out.size)⟩
      | false =>
        have hv := HVE.out
        rw [verdict_skip hro, ← HVD.out] at hv
        obtain ⟨rfl, rfl⟩ := Prod.mk.inj hv
        clear hv
        go_wp2
        go_ret
        exact ⟨rfl, HBW.out.trans (HBK.out.mono HBW.out.size)⟩
end Go.Proofs.Qxb6627205a
