import Derived.Test.Qxb6627205aHit
import Derived.Deep.RegionHeld3
import Derived.Deep.CutBlock
namespace Go.Proofs.Qxb6627205a
open Go.RowKit Go.Maps

attribute [local go_sem ↓] Go.wp_at_zero Go.wp_at_succ

theorem own_cell {w : World} {base n c j : Nat} {a : Option Addr} {l : List Int} (h : w.ownsRow base 3 1 (.slice a n c) l.length (ints l)) (hj : j < l.length) : ∃ g, a = some ⟨g, 0, none⟩ ∧ w.cell? ⟨g, j, none⟩ = some (.int .i64 (l.getD j 0)) := by
  rcases h.2 with ⟨_, h2⟩ | ⟨g, cap, cur, h1, _⟩
  · omega
  · injection h1 with e1 e2 e3
    subst e1
    refine ⟨g, rfl, ?_⟩
    subst e2
    rw [h.cellAt j (by omega)]
    exact ints_get l j hj

/-- Between two values. -/
def Out (w : World) (g0 : Nat) (V : Nat → List UInt8 → Value) (L : Nat → List UInt8 → List Int) (ss : List ByteArray) (t : Nat) (bb : Bool) (ns : List (Nat × List UInt8)) (vb : Value) (wr : World) : Prop :=
  Bk w g0 wr vb (vals V ns) ∧ Snd ns ∧ Hit L ns 6 [] ∧ (∀ (s : Nat) v, s < t → ss[s]? = some v → Seen L ns v) ∧ (bb = false → ∀ (s : Nat) v, s < t → ss[s]? = some v → v.toList.isEmpty = true) ∧ ns.length ≤ 1 + t * 4194304
def OutR (w : World) (g0 : Nat) (V : Nat → List UInt8 → Value) (L : Nat → List UInt8 → List Int) (ss : List ByteArray) (t : Nat) (vb bv : Value) (wr : World) : Prop := ∃ (bb : Bool) (ns : List (Nat × List UInt8)), bv = .bool bb ∧ Out w g0 V L ss t bb ns vb wr
/-- Within the lengths: row is 3 or 4, m the map, cut what is looked up. -/
def Inn (w : World) (g0 : Nat) (V : Nat → List UInt8 → Value) (L : Nat → List UInt8 → List Int) (ns0 : List (Nat × List UInt8)) (row m : Nat) (v : ByteArray) (cut : Nat → ByteArray) (j : Nat) (ns : List (Nat × List UInt8)) (vb : Value) (wr : World) : Prop :=
  Bk w g0 wr vb (vals V ns) ∧ Snd ns ∧ Ext ns0 ns ∧ (∀ (s n : Nat), s < j → (L row [])[s]? = some (n : Int) → n ≤ v.size → Hit L ns m (cut n).data.toList) ∧ ns.length ≤ ns0.length + j
theorem Ext.refl (ns : List (Nat × List UInt8)) : Ext ns ns := fun _ h => h
theorem Ext.trans {a b c : List (Nat × List UInt8)} (h : Ext a b) (k : Ext b c) : Ext a c := fun x hx => k x (h x hx)
theorem inn_skip {w : World} {g0 : Nat} {V : Nat → List UInt8 → Value} {L : Nat → List UInt8 → List Int} {ns0 : List (Nat × List UInt8)} {row m : Nat} {v : ByteArray} {cut : Nat → ByteArray} {j : Nat} {ns : List (Nat × List UInt8)} {vb : Value} {wr : World} {n : Nat} (h : Inn w g0 V L ns0 row m v cut j ns vb wr) (hn : (L row [])[j]? = some (n : Int)) (hgt : ¬ n ≤ v.size) : Inn w g0 V L ns0 row m v cut (j + 1) ns vb wr := by
  obtain ⟨h1, h2, h3, h4, h5⟩ := h
  refine ⟨h1, h2, h3, fun s n' hs hn' hle => ?_, by omega⟩
  by_cases e : s = j
  · subst e; rw [hn] at hn'; have := Option.some.inj hn'; omega
  · exact h4 s n' (by omega) hn' hle
theorem inn_step {w : World} {g0 : Nat} {V : Nat → List UInt8 → Value} {L : Nat → List UInt8 → List Int} {ns0 : List (Nat × List UInt8)} {row m : Nat} {v : ByteArray} {cut : Nat → ByteArray} {j : Nat} {ns ns' : List (Nat × List UInt8)} {vb vb' : Value} {wr wr' : World} {n : Nat} (h : Inn w g0 V L ns0 row m v cut j ns vb wr) (hn : (L row [])[j]? = some (n : Int)) (hg : Got w g0 V L ns m (cut n).data.toList wr' vb' ns') : Inn w g0 V L ns0 row m v cut (j + 1) ns' vb' wr' := by
  obtain ⟨h1, h2, h3, h4, h5⟩ := h
  obtain ⟨g1, g2, g3, g4, g5⟩ := hg
  refine ⟨g1, g2, h3.trans g3, fun s n' hs hn' hle => ?_, by omega⟩
  by_cases e : s = j
  · subst e; rw [hn] at hn'; have e2 : n = n' := by have := Option.some.inj hn'; omega
    subst e2; exact g4
  · exact (h4 s n' (by omega) hn' hle).ext g3
theorem ext_size (v : ByteArray) (a b : Nat) : (v.extract a b).size ≤ v.size := by
  simp only [ByteArray.size_extract]
  omega
/-- All lengths of the row are served. -/
def All (w : World) (g0 : Nat) (V : Nat → List UInt8 → Value) (L : Nat → List UInt8 → List Int) (ns0 : List (Nat × List UInt8)) (row m : Nat) (v : ByteArray) (cut : Nat → ByteArray) (ns : List (Nat × List UInt8)) (vb : Value) (wr : World) : Prop :=
  Bk w g0 wr vb (vals V ns) ∧ Snd ns ∧ Ext ns0 ns ∧ (∀ n : Nat, (n : Int) ∈ L row [] → n ≤ v.size → Hit L ns m (cut n).data.toList) ∧ ns.length ≤ ns0.length + 1048577
theorem inn_all {w : World} {g0 : Nat} {V : Nat → List UInt8 → Value} {L : Nat → List UInt8 → List Int} {ns0 : List (Nat × List UInt8)} {row m : Nat} {v : ByteArray} {cut : Nat → ByteArray} {j : Nat} {ns : List (Nat × List UInt8)} {vb : Value} {wr : World} (h : Inn w g0 V L ns0 row m v cut j ns vb wr) (hj : (L row []).length ≤ j) (hl : j ≤ 1048577) : All w g0 V L ns0 row m v cut ns vb wr := by
  obtain ⟨h1, h2, h3, h4, h5⟩ := h
  refine ⟨h1, h2, h3, fun n hn hle => ?_, by omega⟩
  obtain ⟨s, hs⟩ := List.getElem?_of_mem hn
  have := (List.getElem?_eq_some_iff.1 hs).1
  exact h4 s n (by omega) hs hle
theorem inn_break {w : World} {g0 : Nat} {V : Nat → List UInt8 → Value} {L : Nat → List UInt8 → List Int} {ns0 : List (Nat × List UInt8)} {row m : Nat} {v : ByteArray} {cut : Nat → ByteArray} {j : Nat} {ns : List (Nat × List UInt8)} {vb : Value} {wr : World} {x : Nat} (h : Inn w g0 V L ns0 row m v cut j ns vb wr) (hsrt : (L row []).Pairwise (· < ·)) (hx : (L row [])[j]? = some (x : Int)) (hgt : ¬ x ≤ v.size) (hl : j ≤ 1048577) : All w g0 V L ns0 row m v cut ns vb wr := by
  obtain ⟨h1, h2, h3, h4, h5⟩ := h
  refine ⟨h1, h2, h3, fun n hn hle => ?_, by omega⟩
  obtain ⟨s, hs⟩ := List.getElem?_of_mem hn
  by_cases hsj : s < j
  · exact h4 s n hsj hs hle
  · exfalso
    obtain ⟨l1, e1⟩ := List.getElem?_eq_some_iff.1 hx
    obtain ⟨l2, e2⟩ := List.getElem?_eq_some_iff.1 hs
    by_cases e : s = j
    · subst e; omega
    · have := List.pairwise_iff_getElem.1 hsrt j s l1 l2 (by omega)
      omega
theorem getD_some {l : List Int} {j : Nat} (h : j < l.length) : l[j]? = some (l.getD j 0) := by simp [h]

set_option maxRecDepth 100000 in
set_option maxHeartbeats 4000000 in
theorem lookup30 (wp w : World) (pb po g0 b0 b1 b2 : Nat) (a3 a4 a5 a6 : Option Addr) (n3 c3 n4 c4 n5 c5 n6 c6 : Nat) (sel : Rule → List Pat) (rs : List Rule) (hD : DoneC sel rs wp b0 b1 b2 (.slice a3 n3 c3) (.slice a4 n4 c4) (.slice a5 n5 c5) (.slice a6 n6 c6))
    (h0 : wp.cell? ⟨pb, po, none⟩ = some (.map (some b0))) (h1 : wp.cell? ⟨pb, po + 1, none⟩ = some (.map (some b1))) (h2 : wp.cell? ⟨pb, po + 2, none⟩ = some (.map (some b2)))
    (h3 : wp.cell? ⟨pb, po + 3, none⟩ = some (.slice a3 n3 c3)) (h4 : wp.cell? ⟨pb, po + 4, none⟩ = some (.slice a4 n4 c4)) (h5 : wp.cell? ⟨pb, po + 5, none⟩ = some (.slice a5 n5 c5)) (h6 : wp.cell? ⟨pb, po + 6, none⟩ = some (.slice a6 n6 c6))
    (hBw : Below wp.heap.size wp w) (hg0 : wp.heap.size ≤ g0) (v0 : Value) (hbk : Bk w g0 w v0 []) (a' : Option Addr) (ss : List ByteArray) (c' : Nat) (hss : ss.length ≤ 1048576) (hS : ∀ w', w.grownBy w' (some g0) → Ss w' a' ss) :
    Calls Try.prog 30 #[.pointer (some ⟨pb, po, none⟩), v0, .slice a' ss.length c'] w fun e w' => ∃ v' base n V L ns, e = .returned v' ∧ Bk w g0 w' v' (vals V ns) ∧ Snd ns ∧ Covers L sel rs ss ns ∧ Ix wp b0 base n V L ∧ Inv L sel rs rs.length := by
  obtain ⟨base, n, V, L, rfl, rfl, e3, e4, e5, e6, hix, hinv⟩ := hD
  obtain ⟨A3, C3, f3⟩ := own_slice (hix.rows.own 3 [])
  obtain ⟨A4, C4, f4⟩ := own_slice (hix.rows.own 4 [])
  have k3 : n3 = (L 3 []).length := by rw [f3] at e3; injection e3
  have k4 : n4 = (L 4 []).length := by rw [f4] at e4; injection e4
  subst k3 k4
  clear f3 f4
  rw [e5] at h5
  rw [e6] at h6
  have HW : Hid (∀ w', w.grownBy w' (some g0) → Below wp.heap.size wp w') := fun w' h => hBw.grown h hBw.size (fun k hk => by have := Option.some.inj hk; omega)
  have HIX : Hid (∀ w', w.grownBy w' (some g0) → Ix w' b0 base n V L) := fun w' h => hix.kept (grown_of_below (HW.out w' h))
  have HOWN : Hid (∀ w', w.grownBy w' (some g0) → ∀ m q, w'.ownsRow base 3 1 (V m q) (L m q).length (ints (L m q))) := fun w' h => (HIX.out w' h).rows.own
  have HLEN : Hid (∀ m q, (L m q).length ≤ 1048577) := fun m q => sorted_len (hinv.srt m q) (fun x hx => ⟨(hinv.rng m q x hx).1, (hinv.rng m q x hx).2.1⟩)
  have HCL : Hid (∀ {u : Value} {i : Nat} {w' : World}, w.grownBy w' (some g0) → wp.cell? ⟨pb, i, none⟩ = some u → w'.cell? ⟨pb, i, none⟩ = some u) := fun {u i w'} h hc => ((HW.out w' h).cell (block_lt_of_cell hc)).trans hc
  have HINV : Hid (Inv L sel rs rs.length ∧ Ix wp b0 base n V L) := ⟨hinv, hix⟩
  have HE : Hid (.slice a3 (L 3 []).length c3 = V 3 [] ∧ .slice a4 (L 4 []).length c4 = V 4 []) := ⟨e3, e4⟩
  have HH : Hid (wp.cell? ⟨pb, po, none⟩ = some (.map (some b0)) ∧ wp.cell? ⟨pb, po + 1, none⟩ = some (.map (some (b0 + 1))) ∧ wp.cell? ⟨pb, po + 2, none⟩ = some (.map (some (b0 + 2))) ∧ wp.cell? ⟨pb, po + 3, none⟩ = some (.slice a3 (L 3 []).length c3) ∧ wp.cell? ⟨pb, po + 4, none⟩ = some (.slice a4 (L 4 []).length c4) ∧ wp.cell? ⟨pb, po + 5, none⟩ = some (V 5 []) ∧ wp.cell? ⟨pb, po + 6, none⟩ = some (V 6 [])) := ⟨h0, h1, h2, h3, h4, h5, h6⟩
  have HS : Hid (∀ w', w.grownBy w' (some g0) → Ss w' a' ss) := hS
  have HBK : Hid (Bk w g0 w v0 []) := hbk
  have q6 := HCL.out (World.grownBy.refl w _) h6
  have HLS : Hid (ss.length ≤ 1048576) := hss
  clear h0 h1 h2 h3 h4 h5 h6 e3 e4 e5 e6 hix hinv hBw hg0 hS hbk
  go_enter Try.func30, Try.ntmps30
  go_wp2_with fail
  refine (app34n w w g0 base v0 V L [] 6 [] (by decide) (HOWN.out w (World.grownBy.refl w _) 6 []) (by have := HLEN.out 6 []; omega) HBK.out (fun x h => by simp at h) (by simp)).mono ?_
  rintro e w1 ⟨v1, ns1, rfl, hg1⟩
  have HO1 : Hid (Out w g0 V L ss 0 false ns1 v1 w1) := ⟨hg1.1, hg1.2.1, hg1.2.2.2.1, fun s v h => absurd h (Nat.not_lt_zero _), fun _ s v h => absurd h (Nat.not_lt_zero _), by have := hg1.2.2.2.2; simp at this; omega⟩
  clear hg1 q6
  go_wp2
  go_loopg [1, 7, 22] (ss.length + 1) (fun gk vb bv i wr => ∃ t : Nat, t ≤ ss.length ∧ gk = ss.length + 1 - t ∧ i = .int .i64 t ∧ OutR w g0 V L ss t vb bv wr)
  case atStart => exact ⟨0, Nat.zero_le _, rfl, rfl, false, ns1, rfl, HO1.out⟩
  case round =>
    clear HO1
    obtain ⟨t, ht, rfl, rfl, bb, ns, rfl, hO⟩ := hrel
    have HO : Hid (Out w g0 V L ss t bb ns u1 wr) := hO
    clear hO
    have HGR : Hid (w.grownBy wr (some g0)) := HO.out.1.grown
    by_cases htl : t < ss.length
    · rcases HS.out wr HGR.out with h | ⟨b2, o2, rfl, hS⟩
      · simp [h] at htl
      obtain ⟨v, hv⟩ : ∃ v, ss[t]? = some v := ⟨ss[t], List.getElem?_eq_getElem htl⟩
      obtain ⟨s1, s2⟩ := hS t v hv
      have HV : Hid (ss[t]? = some v) := hv
      have HVS : Hid (v.size ≤ maxLen) := s2
      have htl' : (t : Int) < (ss.length : Int) := by omega
      have q0 := HCL.out HGR.out HH.out.1
      have hlook := (HIX.out wr HGR.out).look (m := 0) (by omega) s2
      rw [Nat.add_zero] at hlook
      have HCNT : Hid (ns.length ≤ 4398046511104) := by
        have h1 := HO.out.2.2.2.2.2
        have h2 := HLS.out
        show _ ≤ _
        omega
      clear hS hv
      go_wp2_with fail
      refine (app34n w wr g0 base u1 V L ns 0 v.data.toList (by decide) (HOWN.out wr HGR.out 0 v.data.toList) (by have := HLEN.out 0 v.data.toList; omega) HO.out.1 HO.out.2.1 (by have := HCNT.out; omega)).mono ?_
      rintro e w2 ⟨v2, ns2, rfl, hg2⟩
      have HG2 : Hid (Got w g0 V L ns 0 v.data.toList w2 v2 ns2) := hg2
      have HGR2 : Hid (w.grownBy w2 (some g0)) := hg2.1.grown
      have q3 := HCL.out HGR2.out HH.out.2.2.2.1
      have HI2 : Hid (Inn w g0 V L ns2 3 1 v (fun n => v.extract 0 n) 0 ns2 v2 w2) := ⟨hg2.1, hg2.2.1, Ext.refl _, fun s n h => absurd h (Nat.not_lt_zero _), by omega⟩
      clear hg2 hlook q0 s1
      have HCNT3 : Hid (ns2.length + 1048577 + 1048577 ≤ 4398046511000 ∧ ns2.length ≤ 2 + t * 4194304) := by
        have h1 := HO.out.2.2.2.2.2
        have h2 := HLS.out
        have h3 := HG2.out.2.2.2.2
        have h4 := HLEN.out 3 []
        exact ⟨by omega, by omega⟩
      go_upto_block 2 with fail
      go_cut [1, 11, 22] from 22 to 90 (fun vb _ i wx => i = .int .i64 t ∧ Hid (∃ nsr, All w g0 V L ns2 3 1 v (fun n => v.extract 0 n) nsr vb wx))
      case first =>
        go_wp2_with fail
        obtain ⟨wo, hwo⟩ : ∃ wo : World, wo = wr := ⟨_, rfl⟩
        subst hwo
        go_loopg [1, 39] ((L 3 []).length + 1) (fun gk vb i wi => ∃ j : Nat, j ≤ (L 3 []).length ∧ gk = (L 3 []).length + 1 - j ∧ i = .int .i64 j ∧ Hid (∃ nsj, Inn w g0 V L ns2 3 1 v (fun n => v.extract 0 n) j nsj vb wi))
        case atStart => exact ⟨0, Nat.zero_le _, rfl, rfl, ns2, HI2.out⟩
        case round =>
          obtain ⟨j, hj, rfl, rfl, HIN⟩ := hrel
          obtain ⟨nsj, hI⟩ := HIN.out
          have HIJ : Hid (Inn w g0 V L ns2 3 1 v (fun n => v.extract 0 n) j nsj u1 wr) := hI
          have HGI : Hid (w.grownBy wr (some g0)) := hI.1.grown
          clear hI HIN
          have hlen := HLEN.out 3 []
          by_cases hjl : j < (L 3 []).length
          · have hown := HOWN.out wr HGI.out 3 []
            rw [← HE.out.1] at hown
            obtain ⟨g3, hA, hc⟩ := own_cell hown hjl
            subst hA
            obtain ⟨x, hx⟩ : ∃ x : Nat, (L 3 []).getD j 0 = (x : Int) := ⟨((L 3 []).getD j 0).toNat, by
              have := (HINV.out.1.rng 3 [] _ (List.mem_of_getElem? (getD_some hjl))).1
              omega⟩
            have HX : Hid ((L 3 [])[j]? = some (x : Int)) := by
              have := getD_some hjl
              rw [hx] at this
              exact this
            rw [hx] at hc
            have hxb : x ≤ 1048576 := by
              have := (HINV.out.1.rng 3 [] _ (List.mem_of_getElem? HX.out)).2.1
              omega
            have hjl' : (j : Int) < ((L 3 []).length : Int) := by omega
            clear hown hx
            by_cases hle : x ≤ v.size
            · have hle' : (x : Int) ≤ (v.size : Int) := by omega
              obtain ⟨key, hkey⟩ : ∃ key, key = (v.extract 0 x).data.toList := ⟨_, rfl⟩
              have HKEY : Hid (key = (v.extract 0 x).data.toList) := hkey
              clear hkey
              have HSS : Hid (∀ w', Hid (w.grownBy w' (some g0)) → w'.cell? ⟨pb, po + 1, none⟩ = some (.map (some (b0 + 1))) ∧ (Instr.lookup 31 (.map (some (b0 + 1))) (.string (v.extract 0 x)) false).run Try.prog w' = .ok (V 1 key) w') := fun w' h =>
                ⟨HCL.out h.out HH.out.2.1, by rw [HKEY.out]; exact (HIX.out w' h.out).look (m := 1) (by omega) (Nat.le_trans (ext_size _ _ _) HVS.out)⟩
              have HBD : Hid (Bk w g0 wr.drew u1 (vals V nsj)) := HIJ.out.1.drew
              have HGD : Hid (w.grownBy wr.drew (some g0)) := HBD.out.grown
              have HCN : Hid (nsj.length ≤ 4398046511105) := by
                have h1 := HIJ.out.2.2.2.2
                have h2 := HCNT3.out.1
                show _ ≤ _
                omega
              have HSN : Hid (Snd nsj) := HIJ.out.2.1
              have HLL : Hid ((L 1 key).length ≤ 4194304) := by have := HLEN.out 1 key; show _ ≤ _; omega
              go_wp2_with fail
              go_region_held3 (fun w' => w'.cell? ⟨pb, po + 1, none⟩ = some (.map (some (b0 + 1))) ∧ (Instr.lookup 31 (.map (some (b0 + 1))) (.string (v.extract 0 x)) false).run Try.prog w' = .ok (V 1 key) w')
                (first | exact HSS.out _ HGD | exact HSS.out _ HG3)
                (first | (go_at_call 34; refine (app34n w _ g0 base u1 V L nsj 1 key (by decide) (HOWN.out _ HGD.out 1 _) HLL.out HBD.out HSN.out HCN.out).mono ?_; rintro e w3 ⟨v3, ns3, rfl, hg3⟩; have HG3 : Hid (w.grownBy w3 (some g0)) := hg3.1.grown; have HGT : Hid (Got w g0 V L nsj 1 key w3 v3 ns3) := hg3; clear hg3))
              clear hc
              go_wp2
              go_roundg ((L 3 []).length + 1 - (j + 1))
              case rel => exact ⟨j + 1, by omega, rfl, by go_num, ns3, inn_step HIJ.out HX.out (by have h := HGT.out; rw [HKEY.out] at h; exact h)⟩
              case measure => omega
            · have hgt' : (v.size : Int) < (x : Int) := by omega
              clear hxb
              go_wp2
              go_meet
              case rel => exact ⟨rfl, nsj, inn_break HIJ.out (HINV.out.1.srt 3 []) HX.out hle (by omega)⟩
          · go_wp2
            go_meet
            case rel => exact ⟨rfl, nsj, inn_all HIJ.out (by omega) (by omega)⟩
      case rest =>
        obtain ⟨rfl, HAL⟩ := hcut
        obtain ⟨nsA, hAL⟩ := HAL.out
        have HAL3 : Hid (All w g0 V L ns2 3 1 v (fun n => v.extract 0 n) nsA u1 wc) := hAL
        clear hAL HAL
        have HGA : Hid (w.grownBy wc (some g0)) := HAL3.out.1.grown
        have q4 := HCL.out HGA.out HH.out.2.2.2.2.1
        have HCNT4 : Hid (nsA.length + (L 4 []).length ≤ 4398046511104 ∧ nsA.length ≤ ns2.length + 1048577) := by
          have h1 := HAL3.out.2.2.2.2
          have h2 := HCNT3.out.1
          have h3 := HLEN.out 4 []
          exact ⟨by omega, h1⟩
        have HST : Hid (Inn w g0 V L nsA 4 2 v (fun n => v.extract (v.size - n) v.size) 0 nsA u1 wc) := ⟨HAL3.out.1, HAL3.out.2.1, Ext.refl _, fun s n h => absurd h (Nat.not_lt_zero _), by omega⟩
        go_upto_block 4 with fail
        go_cut [1, 13, 22] from 22 to 90 (fun vb _ i wx => i = .int .i64 t ∧ Hid (∃ nsr, All w g0 V L nsA 4 2 v (fun n => v.extract (v.size - n) v.size) nsr vb wx))
        case first =>
          go_wp2_with fail
          go_loopg [1, 63] ((L 4 []).length + 1) (fun gk vb i wi => ∃ j : Nat, j ≤ (L 4 []).length ∧ gk = (L 4 []).length + 1 - j ∧ i = .int .i64 j ∧ Hid (∃ nsj, Inn w g0 V L nsA 4 2 v (fun n => v.extract (v.size - n) v.size) j nsj vb wi))
          case atStart => exact ⟨0, Nat.zero_le _, rfl, rfl, nsA, HST.out⟩
          case round =>
            obtain ⟨j, hj, rfl, rfl, HIN⟩ := hrel
            obtain ⟨nsj, hI⟩ := HIN.out
            have HIJ : Hid (Inn w g0 V L nsA 4 2 v (fun n => v.extract (v.size - n) v.size) j nsj u1 wr) := hI
            have HGI : Hid (w.grownBy wr (some g0)) := hI.1.grown
            clear hI HIN
            have hlen := HLEN.out 4 []
            by_cases hjl : j < (L 4 []).length
            · have hown := HOWN.out wr HGI.out 4 []
              rw [← HE.out.2] at hown
              obtain ⟨g3, hA, hc⟩ := own_cell hown hjl
              subst hA
              obtain ⟨x, hx⟩ : ∃ x : Nat, (L 4 []).getD j 0 = (x : Int) := ⟨((L 4 []).getD j 0).toNat, by
                have := (HINV.out.1.rng 4 [] _ (List.mem_of_getElem? (getD_some hjl))).1
                omega⟩
              have HX : Hid ((L 4 [])[j]? = some (x : Int)) := by
                have := getD_some hjl
                rw [hx] at this
                exact this
              rw [hx] at hc
              have hxb : x ≤ 1048576 := by
                have := (HINV.out.1.rng 4 [] _ (List.mem_of_getElem? HX.out)).2.1
                omega
              have hjl' : (j : Int) < ((L 4 []).length : Int) := by omega
              clear hown hx
              by_cases hle : x ≤ v.size
              · have hle' : (x : Int) ≤ (v.size : Int) := by omega
                have hs0 : (0 : Int) ≤ (v.size : Int) - (x : Int) := by omega
                have hs1 : (v.size : Int) - (x : Int) ≤ (v.size : Int) := by omega
                have hs2 : ((v.size : Int) - (x : Int)).toNat = v.size - x := by omega
                have hs3 : v.size ≤ 9223372036854775807 := by have := HVS.out; unfold maxLen at this; omega
                have hwr : IntKind.i64.wrap ((v.size : Int) - (x : Int)) = (v.size : Int) - (x : Int) := by rw [IntKind.wrap_i64]; omega
                obtain ⟨key, hkey⟩ : ∃ key, key = (v.extract (v.size - x) v.size).data.toList := ⟨_, rfl⟩
                have HKEY : Hid (key = (v.extract (v.size - x) v.size).data.toList) := hkey
                clear hkey
                have HSS : Hid (∀ w', Hid (w.grownBy w' (some g0)) → w'.cell? ⟨pb, po + 2, none⟩ = some (.map (some (b0 + 2))) ∧ (Instr.lookup 31 (.map (some (b0 + 2))) (.string (v.extract (v.size - x) v.size)) false).run Try.prog w' = .ok (V 2 key) w') := fun w' h =>
                  ⟨HCL.out h.out HH.out.2.2.1, by rw [HKEY.out]; exact (HIX.out w' h.out).look (m := 2) (by omega) (Nat.le_trans (ext_size _ _ _) HVS.out)⟩
                have HBD : Hid (Bk w g0 wr.drew u1 (vals V nsj)) := HIJ.out.1.drew
                have HGD : Hid (w.grownBy wr.drew (some g0)) := HBD.out.grown
                have HCN : Hid (nsj.length ≤ 4398046511105) := by
                  have h1 := HIJ.out.2.2.2.2
                  have h2 := HCNT4.out.1
                  show _ ≤ _
                  omega
                have HSN : Hid (Snd nsj) := HIJ.out.2.1
                have HLL : Hid ((L 2 key).length ≤ 4194304) := by have := HLEN.out 2 key; show _ ≤ _; omega
                go_wp2_with fail
                go_region_held3 (fun w' => w'.cell? ⟨pb, po + 2, none⟩ = some (.map (some (b0 + 2))) ∧ (Instr.lookup 31 (.map (some (b0 + 2))) (.string (v.extract (v.size - x) v.size)) false).run Try.prog w' = .ok (V 2 key) w')
                  (first | exact HSS.out _ HGD | exact HSS.out _ HG3)
                  (first | (go_at_call 34; refine (app34n w _ g0 base u1 V L nsj 2 key (by decide) (HOWN.out _ HGD.out 2 _) HLL.out HBD.out HSN.out HCN.out).mono ?_; rintro e w3 ⟨v3, ns3, rfl, hg3⟩; have HG3 : Hid (w.grownBy w3 (some g0)) := hg3.1.grown; have HGT : Hid (Got w g0 V L nsj 2 key w3 v3 ns3) := hg3; clear hg3))
                clear hc
                go_wp2
                go_roundg ((L 4 []).length + 1 - (j + 1))
                case rel => exact ⟨j + 1, by omega, rfl, by go_num, ns3, inn_step HIJ.out HX.out (by have h := HGT.out; rw [HKEY.out] at h; exact h)⟩
                case measure => omega
              · have hgt' : (v.size : Int) < (x : Int) := by omega
                clear hxb
                go_wp2
                go_meet
                case rel => exact ⟨rfl, nsj, inn_break HIJ.out (HINV.out.1.srt 4 []) HX.out hle (by omega)⟩
            · go_wp2
              go_meet
              case rel => exact ⟨rfl, nsj, inn_all HIJ.out (by omega) (by omega)⟩
        case rest =>
          obtain ⟨rfl, HAL⟩ := hcut
          obtain ⟨nsB, hAL⟩ := HAL.out
          have HAL4 : Hid (All w g0 V L nsA 4 2 v (fun n => v.extract (v.size - n) v.size) nsB u1 wc) := hAL
          clear hAL HAL
          have HEXT : Hid (Ext ns nsB) := (HG2.out.2.2.1.trans HAL3.out.2.2.1).trans HAL4.out.2.2.1
          have HSEEN : Hid (∀ (s : Nat) q, s < t + 1 → ss[s]? = some q → Seen L nsB q) := fun s q hs hq => by
            by_cases e : s = t
            · subst e
              rw [HV.out] at hq
              cases hq
              exact ⟨HG2.out.2.2.2.1.ext (HAL3.out.2.2.1.trans HAL4.out.2.2.1), fun n h1 h2 => (HAL3.out.2.2.2.1 n h1 h2).ext HAL4.out.2.2.1, HAL4.out.2.2.2.1⟩
            · exact (HO.out.2.2.2.1 s q (by omega) hq).ext HEXT.out
          have HCNB : Hid (nsB.length ≤ 1 + (t + 1) * 4194304) := by
            have h1 := HAL4.out.2.2.2.2
            have h2 := HCNT4.out.2
            have h3 := HG2.out.2.2.2.2
            have h4 := HO.out.2.2.2.2.2
            show _ ≤ _
            omega
          clear q4
          cases bb with
          | true =>
            go_wp2
            go_roundg (ss.length + 1 - (t + 1))
            case rel => exact ⟨t + 1, by omega, rfl, by go_num, true, nsB, rfl, HAL4.out.1, HAL4.out.2.1, HO.out.2.2.1.ext HEXT.out, HSEEN.out, fun h => (Bool.noConfusion h), HCNB.out⟩
            case measure => omega
          | false =>
            cases he : v.toList.isEmpty with
            | true =>
              go_wp2
              go_roundg (ss.length + 1 - (t + 1))
              case rel =>
                exact ⟨t + 1, by omega, rfl, by go_num, false, nsB, rfl, HAL4.out.1, HAL4.out.2.1, HO.out.2.2.1.ext HEXT.out, HSEEN.out, fun _ s q hs hq => by
                  by_cases e : s = t
                  · subst e; rw [HV.out] at hq; cases hq; exact he
                  · exact HO.out.2.2.2.2.1 rfl s q (by omega) hq, HCNB.out⟩
              case measure => omega
            | false =>
              go_wp2
              go_roundg (ss.length + 1 - (t + 1))
              case rel => exact ⟨t + 1, by omega, rfl, by go_num, true, nsB, rfl, HAL4.out.1, HAL4.out.2.1, HO.out.2.2.1.ext HEXT.out, HSEEN.out, fun h => (Bool.noConfusion h), HCNB.out⟩
              case measure => omega
    · have hte : t = ss.length := by omega
      subst hte
      have HLAST : Hid (∀ (k : Nat) q, ss[k]? = some q → Seen L ns q) := fun k q hq => HO.out.2.2.2.1 k q (List.getElem?_eq_some_iff.1 hq).1 hq
      cases bb with
      | false =>
        go_wp2
        go_ret
        exact ⟨_, base, n, V, L, ns, rfl, HO.out.1, HO.out.2.1, covers_of HINV.out.1 HO.out.2.2.1 HLAST.out (fun ⟨q, h1, h2⟩ => by
          obtain ⟨k, hk⟩ := List.getElem?_of_mem h1
          rw [HO.out.2.2.2.2.1 rfl k q (List.getElem?_eq_some_iff.1 hk).1 hk] at h2
          cases h2), HINV.out.2, HINV.out.1⟩
      | true =>
        have q5 := HCL.out HGR.out HH.out.2.2.2.2.2.1
        go_wp2_with fail
        refine (app34n w wr g0 base u1 V L ns 5 [] (by decide) (HOWN.out wr HGR.out 5 []) (by have := HLEN.out 5 []; omega) HO.out.1 HO.out.2.1 (by have h1 := HO.out.2.2.2.2.2; have h2 := HLS.out; omega)).mono ?_
        rintro e w2 ⟨v2, ns2, rfl, hg2⟩
        have HG2 : Hid (Got w g0 V L ns 5 [] w2 v2 ns2) := hg2
        clear hg2 q5
        go_wp2
        go_ret
        exact ⟨_, base, n, V, L, ns2, rfl, HG2.out.1, HG2.out.2.1, covers_of HINV.out.1 (HO.out.2.2.1.ext HG2.out.2.2.1) (fun k q hq => (HLAST.out k q hq).ext HG2.out.2.2.1) (fun _ => HG2.out.2.2.2.1), HINV.out.2, HINV.out.1⟩
end Go.Proofs.Qxb6627205a
