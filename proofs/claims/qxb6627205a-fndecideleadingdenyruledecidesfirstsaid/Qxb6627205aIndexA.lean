import Derived.Test.Qxb6627205aState
namespace Go.Proofs.Qxb6627205a
open Go.RowKit Go.Maps

attribute [local go_sem ↓] Go.wp_at_zero Go.wp_at_succ

theorem own_slice {w : World} {base e size n : Nat} {v : Value} {xs : List Value} (h : w.ownsRow base e size v n xs) : ∃ A C, v = .slice A n C := by
  rcases h.2 with ⟨h1, h2⟩ | ⟨g, cap, cur, h1, _⟩
  · exact ⟨none, 0, by rw [h1, h2]⟩
  · exact ⟨_, _, h1⟩
theorem grown_of_below {w w' : World} (h : Below w.heap.size w w') : w.grownBy w' none := ⟨h.os, h.tape, h.output, h.size, fun i hi _ => h.block i hi⟩
theorem Ix.far {w w' : World} {B base n N : Nat} {V : Nat → List UInt8 → Value} {L : Nat → List UInt8 → List Int} (h : Ix w B base n V L) (hg : w.grownBy w' (some N)) (hN : N < B) : Ix w' B base n V L :=
  ⟨h.rows.kept hg (fun g hg => by have h1 := Option.some.inj hg; have := h.lo; omega), h.nil, fun m hm => (h.maps m hm).kept hg (by simp; omega), h.lo, Nat.le_trans h.hi hg.size⟩
theorem grown_set (w : World) (p : Addr) (v : Value) : w.grownBy (w.setCell p v) (some p.block) :=
  ⟨rfl, rfl, rfl, by simp, fun i _ hne => Below.heap_setCell w p v i (fun e => hne (by rw [e]))⟩
theorem cell_in {w : World} {b : Nat} {c : Array Value} {t : TypeId} (h : w.heap[b]? = some (.cells c t)) (i : Nat) : w.cell? ⟨b, i, none⟩ = c[i]? := by simp [World.cell?, h]
theorem frozen_in {w : World} {b : Nat} {c : Array Value} {t : TypeId} (h : w.heap[b]? = some (.cells c t)) (i : Nat) : w.frozen? ⟨b, i, none⟩ = false := by simp [World.frozen?, h]
theorem new_block (w : World) (o : Obj) : (w.alloc o).heap[w.heap.size]? = some o := by show (w.heap.push o)[w.heap.size]? = some o; simp
set_option maxRecDepth 100000 in
set_option maxHeartbeats 4000000 in
theorem index_true (w : World) (a : Option Addr) (rs : List Rule) (c : Nat) (hl : rs.length ≤ 1048576) (hR : Rl w a rs) (hn : npat (fun r => r.pr) rs < 4194304) (htx : ∀ r ∈ rs, r.pr.length ≤ 1048576 ∧ ∀ p ∈ r.pr, p.text.size ≤ 1048576) :
    Calls Try.prog 20 #[.slice a rs.length c, .bool true] w fun e w' => ∃ v, e = .returned v ∧ Done w (fun r => r.pr) rs v w' ∧ Below w.heap.size w w' := by
  obtain ⟨i0, hi, hz0, hz1, hz2⟩ := info_parts Try.info3
  have hmm := @run_makeMap Try.prog
  obtain ⟨sel, hsel⟩ : ∃ sel : Rule → List Pat, sel = fun r => r.pr := ⟨_, rfl⟩
  have HSEL : Hid (∀ r, sel r = r.pr) := fun r => by rw [hsel]
  rw [← hsel] at hn ⊢
  have HTX : Hid (∀ r ∈ rs, r.pr.length ≤ 1048576 ∧ ∀ p ∈ r.pr, p.text.size ≤ 1048576) := htx
  have HNP : Hid (npat sel rs < 4194304) := hn
  have HL : Hid (rs.length ≤ 1048576) := hl
  clear htx hn hsel
  go_enter Try.func20, Try.ntmps20
  go_wp2
  have HS0 : Hid (St (w.alloc (.cells #[.map none, .map none, .map none, .slice none 0 0, .slice none 0 0, .slice none 0 0, .slice none 0 0] 34)) (w.heap.size + 1) (w.heap.size + 1 + 3) sel rs 0 0 (fun _ _ => .slice none 0 0) (fun _ _ => []) ((((w.alloc (.cells #[.map none, .map none, .map none, .slice none 0 0, .slice none 0 0, .slice none 0 0, .slice none 0 0] 34)).alloc (.map #[] 0)).alloc (.map #[] 0)).alloc (.map #[] 0))) := by
    have := st_start (w.alloc (.cells #[.map none, .map none, .map none, .slice none 0 0, .slice none 0 0, .slice none 0 0, .slice none 0 0] 34)) sel rs
    simp only [World.size_alloc] at this
    exact this
  have HB0 : Hid (Below w.heap.size w (w.alloc (.cells #[.map none, .map none, .map none, .slice none 0 0, .slice none 0 0, .slice none 0 0, .slice none 0 0] 34))) := (Below.refl _ _).alloc (Nat.le_refl _) _
  have HC0 : Hid ((w.alloc (.cells #[.map none, .map none, .map none, .slice none 0 0, .slice none 0 0, .slice none 0 0, .slice none 0 0] 34)).heap[w.heap.size]? = some (.cells #[.map none, .map none, .map none, .slice none 0 0, .slice none 0 0, .slice none 0 0, .slice none 0 0] 34)) := new_block _ _
  have HZ0 : Hid ((w.alloc (.cells #[.map none, .map none, .map none, .slice none 0 0, .slice none 0 0, .slice none 0 0, .slice none 0 0] 34)).heap.size = w.heap.size + 1) := World.size_alloc _ _
  generalize (((w.alloc (.cells #[.map none, .map none, .map none, .slice none 0 0, .slice none 0 0, .slice none 0 0, .slice none 0 0] 34)).alloc (.map #[] 0)).alloc (.map #[] 0)).alloc (.map #[] 0) = W1 at *
  generalize w.alloc (.cells #[.map none, .map none, .map none, .slice none 0 0, .slice none 0 0, .slice none 0 0, .slice none 0 0] 34) = w0 at *
  obtain ⟨N, hN⟩ : ∃ N, N = w.heap.size := ⟨_, rfl⟩
  have HN : Hid (N = w.heap.size) := hN
  rw [← hN] at HS0 HB0 HC0 HZ0 ⊢
  clear hN hmm
  obtain ⟨B, hB⟩ : ∃ B, B = N + 1 := ⟨_, rfl⟩
  have HBN : Hid (B = N + 1) := hB
  rw [← hB] at HS0 HZ0 ⊢
  clear hB
  go_loopg [8, 9, 10, 11, 12] (rs.length + 1) (fun gk p3 p4 p5 p6 i wr => ∃ (k : Nat) (V : Nat → List UInt8 → Value) (L : Nat → List UInt8 → List Int), k ≤ rs.length ∧ gk = rs.length + 1 - k ∧ i = .int .i64 k ∧ p3 = V 3 [] ∧ p4 = V 4 [] ∧ p5 = V 5 [] ∧ p6 = V 6 [] ∧ Hid (St w0 B (B + 3) sel rs k (npat sel (rs.take k)) V L wr) ∧ Hid (∀ x ∈ L 6 [], x < (k : Int)))
  case atStart => exact ⟨0, _, _, Nat.zero_le _, rfl, rfl, rfl, rfl, rfl, rfl, HS0.out, fun x hx => by simp at hx⟩
  case round =>
    clear HS0
    obtain ⟨k, V, L, hk, rfl, rfl, rfl, rfl, rfl, rfl, HS, HLT⟩ := hrel
    have HBW : Hid (Below w.heap.size w wr) := by
      have h1 := HB0.out
      rw [HN.out] at h1
      exact h1.trans (HS.out.bel.mono (by rw [HZ0.out, HBN.out, HN.out]; omega))
    by_cases hlt : k < rs.length
    · rcases hR with h | ⟨b, o, rfl, hR⟩
      · simp [h] at hlt
      obtain ⟨r, hr⟩ : ∃ r, rs[k]? = some r := ⟨rs[k], List.getElem?_eq_getElem hlt⟩
      obtain ⟨A1, C1, A2, C2, _, d2, d3, p1, p2, _⟩ := hR k r hr
      have c2 := (HBW.out.cell (block_lt_of_cell d2)).trans d2
      have c3 := (HBW.out.cell (block_lt_of_cell d3)).trans d3
      have HRk : Hid (rs[k]? = some r) := hr
      have HPS : Hid (Ps w A1 r.pr) := p1
      have hlen := (HTX.out r (List.mem_of_getElem? hr)).1
      have hkl : (k : Int) < (rs.length : Int) := by omega
      clear hR hr p1 p2 d2 d3
      by_cases h0 : r.pr.length = 0
      · have HNIL : Hid (r.pr = []) := List.eq_nil_of_length_eq_zero h0
        rw [h0] at c2
        have HO6 : Hid (wr.ownsRow (B + 3) 3 1 (V 6 []) (L 6 []).length (ints (L 6 []))) := HS.out.own 6 []
        have hL6 := HS.out.inv.len 6 []
        have htop := HS.out.top
        clear h0
        go_wp2_with (first
          | (at_builtin; refine wpList_append_lies _ rfl _ _ 32 rfl (B + 3) 3 i0 (.int .i64 0) 1 8 Try.underlying32 hi hz0 hz1 hz2 rfl (by omega) (V 6 []) (L 6 []).length (ints (L 6 [])) rfl (by exact HO6.out.alloc _) ⟨wr.heap.size, 0, none⟩ 1 1 [.int .i64 k] rfl rfl (by exact cell_one_new wr _ _) (by intro u hu; simp at hu; subst hu; rfl) (by omega) (by unfold maxLen; omega) (by omega) (by simp; omega) (wr.heap.size + 1) (by simp) ?_; intro g cap w1 hown1 hgrow1 hat1 hlt1))
        have HST : Hid (Step (B + 3) wr w1 (V 6 []) (.slice (some ⟨g, 0, none⟩) ((L 6 []).length + 1) cap) (addP (L 6 []) k)) := by
          show Step _ _ _ _ _ _
          rw [addP_lt HLT.out]
          refine ⟨by rw [ints_snoc] at hown1; simpa using hown1, (World.grownBy_alloc wr _ _).trans hgrow1, ?_⟩
          rcases hat1 with h | h
          · exact .inl h.symm
          · exact .inr ⟨g, rfl, by omega⟩
        have HS1 : Hid (St w0 B (B + 3) sel rs k (npat sel (rs.take k)) (upd V 6 [] (.slice (some ⟨g, 0, none⟩) ((L 6 []).length + 1) cap)) (upd L 6 [] (addP (L 6 []) k)) w1) := HS.out.row (by omega) HST.out (addP_ne _ _) (inv_add HS.out.inv hlt HL.out 6 [] (by omega) (by omega))
        clear hown1 hgrow1 hat1 hlt1 c2 c3 hL6 htop
        go_wp2
        go_roundg (rs.length + 1 - (k + 1))
        case rel =>
          refine ⟨k + 1, _, _, by omega, rfl, by go_num, ?_, ?_, ?_, ?_, (HS1.out.next HRk.out (covR_nil (by rw [HSEL.out]; exact HNIL.out) (mem_upd_add _ _ _ _))).more (by rw [npat_take sel rs k r HRk.out]; omega), HS1.out.six⟩
          · rw [upd_other _ _ (by simp)]
          · rw [upd_other _ _ (by simp)]
          · rw [upd_other _ _ (by simp)]
          · rw [upd_same]
        case measure => omega
      · have h0' : ((r.pr.length : Int) == 0) = false := by simp; exact fun h => h0 (by simp [h])
        have HNE : Hid (r.pr ≠ []) := fun e => h0 (by rw [e]; rfl)
        have HLR : Hid (r.pr.length ≤ 1048576) := hlen
        have HNT : Hid (npat sel (rs.take k) + r.pr.length < 4194304) := by
          have := npat_take sel rs k r HRk.out
          rw [HSEL.out] at this
          have h2 := npat_le sel rs (k + 1)
          have := HNP.out
          show _ < _
          omega
        have HTXr : Hid (∀ p ∈ r.pr, p.text.size ≤ 1048576) := (HTX.out r (List.mem_of_getElem? HRk.out)).2
        clear h0
        go_wp2
        obtain ⟨wo, hwo⟩ : ∃ wo : World, wo = wr := ⟨_, rfl⟩
        subst hwo
        clear c2 c3
        go_loopg [8, 9, 10, 14] (r.pr.length + 1) (fun gk p3 p4 p5 j wi => ∃ (t : Nat) (V1 : Nat → List UInt8 → Value) (L1 : Nat → List UInt8 → List Int), t ≤ r.pr.length ∧ gk = r.pr.length + 1 - t ∧ j = .int .i64 t ∧ p3 = V1 3 [] ∧ p4 = V1 4 [] ∧ p5 = V1 5 [] ∧ Hid (V1 6 [] = V 6 []) ∧ Hid (St w0 B (B + 3) sel rs k (npat sel (rs.take k) + t) V1 L1 wi) ∧ Hid (Cov L1 k r.pr t))
        case atStart => exact ⟨0, V, L, Nat.zero_le _, rfl, rfl, rfl, rfl, rfl, rfl, HS.out, fun s p hs => absurd hs (Nat.not_lt_zero _)⟩
        case round =>
          obtain ⟨t, V1, L1, ht, rfl, rfl, rfl, rfl, rfl, H6, HS1, HCV⟩ := hrel
          have HBI : Hid (Below w.heap.size w wr) := by
            have h1 := HB0.out
            rw [HN.out] at h1
            exact h1.trans (HS1.out.bel.mono (by rw [HZ0.out, HBN.out, HN.out]; omega))
          by_cases htl : t < r.pr.length
          · rcases HPS.out with h | ⟨b2, o2, hA, hP⟩
            · simp [h] at htl
            · subst hA
              obtain ⟨p, hp⟩ : ∃ p, r.pr[t]? = some p := ⟨r.pr[t], List.getElem?_eq_getElem htl⟩
              have HPk : Hid (r.pr[t]? = some p) := hp
              obtain ⟨c4, c5, _, _, q5⟩ := (hP t p hp).below HBI.out
              have htl' : (t : Int) < (r.pr.length : Int) := by omega
              clear hP hp
              by_cases e1 : p.form = 1
              · have f1 : (p.form == 1) = true := by simp [e1]
                have HF : Hid (p.form = 1) := e1
                clear e1
                have hlook : (Instr.lookup 31 (.map (some (B + 1))) (.string p.text) false).run Try.prog wr = .ok (V1 1 (pkey p)) wr := HS1.out.look (m := 1) (by omega) q5
                have HO : Hid (wr.ownsRow (B + 3) 3 1 (V1 1 (pkey p)) (L1 1 (pkey p)).length (ints (L1 1 (pkey p)))) := HS1.out.own 1 (pkey p)
                have HLN : Hid ((L1 1 (pkey p)).length ≤ 4194304) := HS1.out.inv.len 1 (pkey p)
                go_wp2_with fail
                refine (add27 _ (B + 3) (V1 1 (pkey p)) (L1 1 (pkey p)) k HO.out HLN.out HS1.out.top).mono ?_
                rintro e w1 ⟨v1, rfl, hst1⟩
                obtain ⟨w2, hrun, hS2⟩ := HS1.out.bucket (m := 1) (s := p.text) (by omega) q5 (by have := HNT.out; omega) hst1 (addP_ne _ _) (inv_add HS1.out.inv hlt HL.out 1 (pkey p) (by omega) (by omega))
                have hrun' : (Instr.mapUpdate 31 (.map (some (B + 1))) (.string p.text) v1).run Try.prog w1 = .ok () w2 := hrun
                have HS2 : Hid (St w0 B (B + 3) sel rs k (npat sel (rs.take k) + t + 1) (upd V1 1 (pkey p) v1) (upd L1 1 (pkey p) (addP (L1 1 (pkey p)) k)) w2) := hS2
                clear hst1 hrun hS2 hlook c4 c5
                have e3 : upd V1 1 (pkey p) v1 3 [] = V1 3 [] := upd_other _ _ (by simp)
                have HO2 : Hid (w2.ownsRow (B + 3) 3 1 (V1 3 []) (upd L1 1 (pkey p) (addP (L1 1 (pkey p)) k) 3 []).length (ints (upd L1 1 (pkey p) (addP (L1 1 (pkey p)) k) 3 []))) := by
                  have := HS2.out.own 3 []
                  rw [e3] at this
                  exact this
                have HE3 : Hid (upd V1 1 (pkey p) v1 3 [] = V1 3 []) := e3
                clear e3
                go_wp2_with fail
                refine (ins28 _ (B + 3) (V1 3 []) (upd L1 1 (pkey p) (addP (L1 1 (pkey p)) k) 3 []) p.text.size HO2.out (HS2.out.inv.len 3 []) HS2.out.top).mono ?_
                rintro e w3 ⟨v3, rfl, hst3⟩
                have HS3 : Hid (St w0 B (B + 3) sel rs k (npat sel (rs.take k) + t + 1) (upd (upd V1 1 (pkey p) v1) 3 [] v3) (upd (upd L1 1 (pkey p) (addP (L1 1 (pkey p)) k)) 3 [] (insL (upd L1 1 (pkey p) (addP (L1 1 (pkey p)) k) 3 []) p.text.size)) w3) := HS2.out.row (by omega) (by rw [HE3.out]; exact hst3) (insL_ne _ _) (inv_ins HS2.out.inv 3 (by omega) p.text.size (HTXr.out p (List.mem_of_getElem? HPk.out)))
                clear hst3 hrun'
                go_wp2
                go_roundg (r.pr.length + 1 - (t + 1))
                case rel =>
                  refine ⟨t + 1, _, _, by omega, rfl, by go_num, ?_, ?_, ?_, ?_, HS3.out, HCV.out.next ((sub_add _ _ _ _).trans (sub_ins _ _ _ _)) HPk.out (cov_one HF.out (sub_ins _ _ _ _) (mem_upd_add _ _ _ _) (mem_upd_ins _ _ _ _))⟩
                  · simp [upd]
                  · simp [upd]
                  · simp [upd]
                  · show _ = _
                    rw [← H6.out]; simp [upd]
                case measure => omega
              have f1 : (p.form == 1) = false := by simp [e1]
              by_cases e2 : p.form = 2
              · have f2 : (p.form == 2) = true := by simp [e2]
                have HF : Hid (p.form = 2) := e2
                clear e1 e2
                have hlook : (Instr.lookup 31 (.map (some (B + 1 + 1))) (.string p.text) false).run Try.prog wr = .ok (V1 2 (pkey p)) wr := HS1.out.look (m := 2) (by omega) q5
                have HO : Hid (wr.ownsRow (B + 3) 3 1 (V1 2 (pkey p)) (L1 2 (pkey p)).length (ints (L1 2 (pkey p)))) := HS1.out.own 2 (pkey p)
                have HLN : Hid ((L1 2 (pkey p)).length ≤ 4194304) := HS1.out.inv.len 2 (pkey p)
                go_wp2_with fail
                refine (add27 _ (B + 3) (V1 2 (pkey p)) (L1 2 (pkey p)) k HO.out HLN.out HS1.out.top).mono ?_
                rintro e w1 ⟨v1, rfl, hst1⟩
                obtain ⟨w2, hrun, hS2⟩ := HS1.out.bucket (m := 2) (s := p.text) (by omega) q5 (by have := HNT.out; omega) hst1 (addP_ne _ _) (inv_add HS1.out.inv hlt HL.out 2 (pkey p) (by omega) (by omega))
                have hrun' : (Instr.mapUpdate 31 (.map (some (B + 1 + 1))) (.string p.text) v1).run Try.prog w1 = .ok () w2 := hrun
                have HS2 : Hid (St w0 B (B + 3) sel rs k (npat sel (rs.take k) + t + 1) (upd V1 2 (pkey p) v1) (upd L1 2 (pkey p) (addP (L1 2 (pkey p)) k)) w2) := hS2
                clear hst1 hrun hS2 hlook c4 c5
                have e3 : upd V1 2 (pkey p) v1 4 [] = V1 4 [] := upd_other _ _ (by simp)
                have HO2 : Hid (w2.ownsRow (B + 3) 3 1 (V1 4 []) (upd L1 2 (pkey p) (addP (L1 2 (pkey p)) k) 4 []).length (ints (upd L1 2 (pkey p) (addP (L1 2 (pkey p)) k) 4 []))) := by
                  have := HS2.out.own 4 []
                  rw [e3] at this
                  exact this
                have HE3 : Hid (upd V1 2 (pkey p) v1 4 [] = V1 4 []) := e3
                clear e3
                go_wp2_with fail
                refine (ins28 _ (B + 3) (V1 4 []) (upd L1 2 (pkey p) (addP (L1 2 (pkey p)) k) 4 []) p.text.size HO2.out (HS2.out.inv.len 4 []) HS2.out.top).mono ?_
                rintro e w3 ⟨v3, rfl, hst3⟩
                have HS3 : Hid (St w0 B (B + 3) sel rs k (npat sel (rs.take k) + t + 1) (upd (upd V1 2 (pkey p) v1) 4 [] v3) (upd (upd L1 2 (pkey p) (addP (L1 2 (pkey p)) k)) 4 [] (insL (upd L1 2 (pkey p) (addP (L1 2 (pkey p)) k) 4 []) p.text.size)) w3) := HS2.out.row (by omega) (by rw [HE3.out]; exact hst3) (insL_ne _ _) (inv_ins HS2.out.inv 4 (by omega) p.text.size (HTXr.out p (List.mem_of_getElem? HPk.out)))
                clear hst3 hrun'
                go_wp2
                go_roundg (r.pr.length + 1 - (t + 1))
                case rel =>
                  refine ⟨t + 1, _, _, by omega, rfl, by go_num, ?_, ?_, ?_, ?_, HS3.out, HCV.out.next ((sub_add _ _ _ _).trans (sub_ins _ _ _ _)) HPk.out (cov_two HF.out (sub_ins _ _ _ _) (mem_upd_add _ _ _ _) (mem_upd_ins _ _ _ _))⟩
                  · simp [upd]
                  · simp [upd]
                  · simp [upd]
                  · show _ = _
                    rw [← H6.out]; simp [upd]
                case measure => omega
              have f2 : (p.form == 2) = false := by simp [e2]
              by_cases e3 : p.form = 3
              · have f3 : (p.form == 3) = true := by simp [e3]
                have HF : Hid (p.form = 3) := e3
                clear e1 e2 e3
                go_wp2_with fail
                refine (add27 _ (B + 3) (V1 5 []) (L1 5 []) k (HS1.out.own 5 []) (HS1.out.inv.len 5 []) HS1.out.top).mono ?_
                rintro e w1 ⟨v1, rfl, hst1⟩
                have HS2 : Hid (St w0 B (B + 3) sel rs k (npat sel (rs.take k) + t + 1) (upd V1 5 [] v1) (upd L1 5 [] (addP (L1 5 []) k)) w1) := (HS1.out.row (by omega) hst1 (addP_ne _ _) (inv_add HS1.out.inv hlt HL.out 5 [] (by omega) (by omega))).more (by omega)
                clear hst1 c4 c5
                go_wp2
                go_roundg (r.pr.length + 1 - (t + 1))
                case rel =>
                  refine ⟨t + 1, _, _, by omega, rfl, by go_num, ?_, ?_, ?_, ?_, HS2.out, HCV.out.next (sub_add _ _ _ _) HPk.out (cov_three HF.out (mem_upd_add _ _ _ _))⟩
                  · simp [upd]
                  · simp [upd]
                  · simp [upd]
                  · show _ = _
                    rw [← H6.out]; simp [upd]
                case measure => omega
              · have f3 : (p.form == 3) = false := by simp [e3]
                have HF : Hid (p.form ≠ 1 ∧ p.form ≠ 2 ∧ p.form ≠ 3) := ⟨e1, e2, e3⟩
                clear e1 e2 e3
                have hlook : (Instr.lookup 31 (.map (some B)) (.string p.text) false).run Try.prog wr = .ok (V1 0 (pkey p)) wr := HS1.out.look (m := 0) (by omega) q5
                have HO : Hid (wr.ownsRow (B + 3) 3 1 (V1 0 (pkey p)) (L1 0 (pkey p)).length (ints (L1 0 (pkey p)))) := HS1.out.own 0 (pkey p)
                have HLN : Hid ((L1 0 (pkey p)).length ≤ 4194304) := HS1.out.inv.len 0 (pkey p)
                go_wp2_with fail
                refine (add27 _ (B + 3) (V1 0 (pkey p)) (L1 0 (pkey p)) k HO.out HLN.out HS1.out.top).mono ?_
                rintro e w1 ⟨v1, rfl, hst1⟩
                obtain ⟨w2, hrun, hS2⟩ := HS1.out.bucket (m := 0) (s := p.text) (by omega) q5 (by have := HNT.out; omega) hst1 (addP_ne _ _) (inv_add HS1.out.inv hlt HL.out 0 (pkey p) (by omega) (by omega))
                have hrun' : (Instr.mapUpdate 31 (.map (some B)) (.string p.text) v1).run Try.prog w1 = .ok () w2 := hrun
                have HS2 : Hid (St w0 B (B + 3) sel rs k (npat sel (rs.take k) + t + 1) (upd V1 0 (pkey p) v1) (upd L1 0 (pkey p) (addP (L1 0 (pkey p)) k)) w2) := hS2
                clear hst1 hrun hS2 hlook c4 c5
                go_wp2
                go_roundg (r.pr.length + 1 - (t + 1))
                case rel =>
                  refine ⟨t + 1, _, _, by omega, rfl, by go_num, ?_, ?_, ?_, ?_, HS2.out, HCV.out.next (sub_add _ _ _ _) HPk.out (cov_zero HF.out (mem_upd_add _ _ _ _))⟩
                  · simp [upd]
                  · simp [upd]
                  · simp [upd]
                  · show _ = _
                    rw [← H6.out]; simp [upd]
                case measure => omega
          · go_wp2
            go_roundg (rs.length + 1 - (k + 1))
            case rel =>
              refine ⟨k + 1, V1, L1, by omega, rfl, by go_num, rfl, rfl, rfl, H6.out.symm, (HS1.out.next HRk.out (covR_of (t := t) (by rw [HSEL.out]; exact HCV.out) (by rw [HSEL.out]; omega) (by rw [HSEL.out]; exact HNE.out))).more (by rw [npat_take sel rs k r HRk.out, HSEL.out]; omega), HS1.out.six⟩
            case measure => omega
    · have hke : k = rs.length := by omega
      subst hke
      rw [List.take_length] at HS
      clear hR
      obtain ⟨A3, C3, e3⟩ := own_slice (HS.out.own 3 [])
      obtain ⟨A4, C4, e4⟩ := own_slice (HS.out.own 4 [])
      obtain ⟨A5, C5, e5⟩ := own_slice (HS.out.own 5 [])
      obtain ⟨A6, C6, e6⟩ := own_slice (HS.out.own 6 [])
      have HV : Hid (V 3 [] = .slice A3 (L 3 []).length C3 ∧ V 4 [] = .slice A4 (L 4 []).length C4 ∧ V 5 [] = .slice A5 (L 5 []).length C5 ∧ V 6 [] = .slice A6 (L 6 []).length C6) := ⟨e3, e4, e5, e6⟩
      rw [e3, e4, e5, e6]
      clear e3 e4 e5 e6
      generalize (L 3 []).length = n3 at *
      generalize (L 4 []).length = n4 at *
      generalize (L 5 []).length = n5 at *
      generalize (L 6 []).length = n6 at *
      have HC1 : Hid (wr.heap[N]? = some (.cells #[.map none, .map none, .map none, .slice none 0 0, .slice none 0 0, .slice none 0 0, .slice none 0 0] 34)) := by
        show _ = _
        rw [HS.out.bel.block N (by rw [HZ0.out, HBN.out]; omega)]
        exact HC0.out
      have hNlt : N < wr.heap.size := by
        have h1 := HC1.out
        exact (Array.getElem?_eq_some_iff.1 h1).1
      go_wp2_with fail
      refine (new29 _ B (B + 1) (B + 1 + 1) A3 A4 A5 A6 n3 n4 n5 n6 C3 C4 C5 C6).mono ?_
      rintro e w1 ⟨rfl, hb1⟩
      have hC2 : w1.heap[N]? = some (.cells #[.map none, .map none, .map none, .slice none 0 0, .slice none 0 0, .slice none 0 0, .slice none 0 0] 34) := (hb1.block N hNlt).trans HC1.out
      have HIX : Hid (∃ n, Ix w1 B (B + 3) n V L) := by
        obtain ⟨n, _, hx⟩ := HS.out.ix
        exact ⟨n, hx.kept (grown_of_below hb1)⟩
      have HB1 : Hid (Below w.heap.size w w1) := HBW.out.trans (hb1.mono HBW.out.size)
      have d0 := cell_in hC2 0
      have d1 := cell_in hC2 1
      have d2 := cell_in hC2 2
      have d3 := cell_in hC2 3
      have d4 := cell_in hC2 4
      have d5 := cell_in hC2 5
      have d6 := cell_in hC2 6
      have dz := frozen_in hC2
      clear hb1 hC2
      go_wp2
      have HG : Hid (w1.grownBy (((((((w1.setCell { block := N, off := 0 } (Value.map (some B))).setCell { block := N, off := 1 } (Value.map (some (B + 1)))).setCell { block := N, off := 2 } (Value.map (some (B + 1 + 1)))).setCell { block := N, off := 3 } (Value.slice A3 n3 C3)).setCell { block := N, off := 4 } (Value.slice A4 n4 C4)).setCell { block := N, off := 5 } (Value.slice A5 n5 C5)).setCell { block := N, off := 6 } (Value.slice A6 n6 C6)) (some N)) :=
        ((((((grown_set w1 ⟨N, 0, none⟩ _).trans (grown_set _ ⟨N, 1, none⟩ _)).trans (grown_set _ ⟨N, 2, none⟩ _)).trans (grown_set _ ⟨N, 3, none⟩ _)).trans (grown_set _ ⟨N, 4, none⟩ _)).trans (grown_set _ ⟨N, 5, none⟩ _)).trans (grown_set _ ⟨N, 6, none⟩ _)
      refine bodyPost_ret (v := .agg #[.map (some B), .map (some (B + 1)), .map (some (B + 1 + 1)), .slice A3 n3 C3, .slice A4 n4 C4, .slice A5 n5 C5, .slice A6 n6 C6]) (by simp [results, Try.results20, go_sem, d0, d1, d2, d3, d4, d5, d6]) rfl ⟨_, rfl, ?_, ?_⟩
      · obtain ⟨n, hx⟩ := HIX.out
        refine ⟨B, B + 3, n, V, L, ?_, hx.far HG.out (by rw [HBN.out]; omega), HS.out.inv, by rw [HBN.out, HN.out]; omega⟩
        rw [HV.out.1, HV.out.2.1, HV.out.2.2.1, HV.out.2.2.2]
      · exact HB1.out.grown HG.out HB1.out.size (fun g hg => by have h1 := Option.some.inj hg; have h2 := HN.out; omega)
end Go.Proofs.Qxb6627205a
