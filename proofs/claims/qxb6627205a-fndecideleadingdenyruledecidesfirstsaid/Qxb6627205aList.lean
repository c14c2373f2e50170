import Derived.Test.Qxb6627205aRow
namespace Go.Proofs.Qxb6627205a
open Go.RowKit Go.Maps

attribute [local go_sem ↓] Go.wp_at_zero Go.wp_at_succ

/-- A filled index, by its cells. -/
def DoneC (sel : Rule → List Pat) (rs : List Rule) (w : World) (b0 b1 b2 : Nat) (v3 v4 v5 v6 : Value) : Prop :=
  ∃ base n V L, b1 = b0 + 1 ∧ b2 = b0 + 2 ∧ v3 = V 3 [] ∧ v4 = V 4 [] ∧ v5 = V 5 [] ∧ v6 = V 6 [] ∧ Ix w b0 base n V L ∧ Inv L sel rs rs.length
theorem DoneC.kept {sel : Rule → List Pat} {rs : List Rule} {w w' : World} {b0 b1 b2 : Nat} {v3 v4 v5 v6 : Value} (h : DoneC sel rs w b0 b1 b2 v3 v4 v5 v6) (hg : w.grownBy w' none) : DoneC sel rs w' b0 b1 b2 v3 v4 v5 v6 := by
  obtain ⟨base, n, V, L, h1, h2, h3, h4, h5, h6, h7, h8⟩ := h
  exact ⟨base, n, V, L, h1, h2, h3, h4, h5, h6, h7.kept hg, h8⟩
theorem Done.forms {w w' : World} {sel : Rule → List Pat} {rs : List Rule} {v : Value} (h : Done w sel rs v w') : ∃ (xa3 xa4 xa5 xa6 : Option Addr) (x0 x1 x2 xn3 xc3 xn4 xc4 xn5 xc5 xn6 xc6 : Nat), v = .agg #[.map (some x0), .map (some x1), .map (some x2), .slice xa3 xn3 xc3, .slice xa4 xn4 xc4, .slice xa5 xn5 xc5, .slice xa6 xn6 xc6] ∧ DoneC sel rs w' x0 x1 x2 (.slice xa3 xn3 xc3) (.slice xa4 xn4 xc4) (.slice xa5 xn5 xc5) (.slice xa6 xn6 xc6) ∧ w.heap.size ≤ x0 := by
  obtain ⟨B, base, n, V, L, rfl, hi, hv, hB⟩ := h
  obtain ⟨A3, C3, e3⟩ := own_slice (hi.rows.own 3 [])
  obtain ⟨A4, C4, e4⟩ := own_slice (hi.rows.own 4 [])
  obtain ⟨A5, C5, e5⟩ := own_slice (hi.rows.own 5 [])
  obtain ⟨A6, C6, e6⟩ := own_slice (hi.rows.own 6 [])
  exact ⟨A3, A4, A5, A6, B, B + 1, B + 2, _, C3, _, C4, _, C5, _, C6, by rw [e3, e4, e5, e6], ⟨base, n, V, L, rfl, rfl, e3.symm, e4.symm, e5.symm, e6.symm, hi, hv⟩, hB⟩
theorem DoneC.far {sel : Rule → List Pat} {rs : List Rule} {w w' : World} {b0 b1 b2 N : Nat} {v3 v4 v5 v6 : Value} (h : DoneC sel rs w b0 b1 b2 v3 v4 v5 v6) (hg : w.grownBy w' (some N)) (hN : N < b0) : DoneC sel rs w' b0 b1 b2 v3 v4 v5 v6 := by
  obtain ⟨base, n, V, L, h1, h2, h3, h4, h5, h6, h7, h8⟩ := h
  exact ⟨base, n, V, L, h1, h2, h3, h4, h5, h6, h7.far hg hN, h8⟩

theorem Rows.grown {w w' : World} {xs : List Value} {rs : List Rule} {k : Nat} {row : Option Nat} (h : Rows w xs rs k) (hg : w.grownBy w' row) (hne : ∀ b f, w.cell? ⟨b, 0, none⟩ = some (.int .u8 f) → some b ≠ row) : Rows w' xs rs k := by
  intro i r hi hr
  obtain ⟨A1, C1, A2, C2, h1, h2, h3, h4, h5⟩ := h i r hi hr
  exact ⟨A1, C1, A2, C2, h1, h2, h3, h4.grown hg hne, h5.grown hg hne⟩
/-- What a rule list needs. -/
structure Sized (rs : List Rule) : Prop where
  len : rs.length ≤ 1048576
  np : npat (fun r => r.pr) rs < 4194304
  na : npat (fun r => r.pa) rs < 4194304
  pr : ∀ r ∈ rs, r.pr.length ≤ 1048576 ∧ ∀ p ∈ r.pr, p.text.size ≤ 1048576
  pa : ∀ r ∈ rs, r.pa.length ≤ 1048576 ∧ ∀ p ∈ r.pa, p.text.size ≤ 1048576

/-- A rule list as a value. -/
def LV (w : World) (rs : List Rule) (v : Value) : Prop :=
  ∃ (A xa3 xa4 xa5 xa6 ya3 ya4 ya5 ya6 : Option Addr) (C x0 x1 x2 xn3 xc3 xn4 xc4 xn5 xc5 xn6 xc6 y0 y1 y2 yn3 yc3 yn4 yc4 yn5 yc5 yn6 yc6 : Nat), v = .agg #[.slice A rs.length C, .map (some x0), .map (some x1), .map (some x2), .slice xa3 xn3 xc3, .slice xa4 xn4 xc4, .slice xa5 xn5 xc5, .slice xa6 xn6 xc6, .map (some y0), .map (some y1), .map (some y2), .slice ya3 yn3 yc3, .slice ya4 yn4 yc4, .slice ya5 yn5 yc5, .slice ya6 yn6 yc6] ∧ Rr w A rs ∧ DoneC (fun r => r.pr) rs w x0 x1 x2 (.slice xa3 xn3 xc3) (.slice xa4 xn4 xc4) (.slice xa5 xn5 xc5) (.slice xa6 xn6 xc6) ∧ DoneC (fun r => r.pa) rs w y0 y1 y2 (.slice ya3 yn3 yc3) (.slice ya4 yn4 yc4) (.slice ya5 yn5 yc5) (.slice ya6 yn6 yc6)

set_option maxRecDepth 100000 in
set_option maxHeartbeats 4000000 in
theorem list10 (w : World) (a : Option Addr) (rs : List Rule) (c : Nat) (hz : Sized rs) (hR : Rl w a rs) :
    Calls Try.prog 10 #[.slice a rs.length c] w fun e w' => ∃ v, e = .returned v ∧ LV w' rs v ∧ Below w.heap.size w w' := by
  obtain ⟨i0, hi, hz0, hz1, hz2⟩ := info_parts Try.info56
  have HZ : Hid (Sized rs) := hz
  have hl := hz.len
  have HROK : Hid (∀ r ∈ rs, r.name.size ≤ maxLen ∧ r.pr.length ≤ maxLen ∧ r.pa.length ≤ maxLen) := hR.ok
  have HRL : Hid (Rl w a rs) := hR
  clear hz
  go_enter Try.func10, Try.ntmps10
  go_wp2
  have HB0 : Hid (Below w.heap.size w (w.alloc (.cells #[.slice none 0 0, .map none, .map none, .map none, .slice none 0 0, .slice none 0 0, .slice none 0 0, .slice none 0 0, .map none, .map none, .map none, .slice none 0 0, .slice none 0 0, .slice none 0 0, .slice none 0 0] 36))) := (Below.refl _ _).alloc (Nat.le_refl _) _
  have HC0 : Hid ((w.alloc (.cells #[.slice none 0 0, .map none, .map none, .map none, .slice none 0 0, .slice none 0 0, .slice none 0 0, .slice none 0 0, .map none, .map none, .map none, .slice none 0 0, .slice none 0 0, .slice none 0 0, .slice none 0 0] 36)).heap[w.heap.size]? = some (.cells #[.slice none 0 0, .map none, .map none, .map none, .slice none 0 0, .slice none 0 0, .slice none 0 0, .slice none 0 0, .map none, .map none, .map none, .slice none 0 0, .slice none 0 0, .slice none 0 0, .slice none 0 0] 36)) := new_block _ _
  have HZ0 : Hid ((w.alloc (.cells #[.slice none 0 0, .map none, .map none, .map none, .slice none 0 0, .slice none 0 0, .slice none 0 0, .slice none 0 0, .map none, .map none, .map none, .slice none 0 0, .slice none 0 0, .slice none 0 0, .slice none 0 0] 36)).heap.size = w.heap.size + 1) := World.size_alloc _ _
  generalize w.alloc (.cells #[.slice none 0 0, .map none, .map none, .map none, .slice none 0 0, .slice none 0 0, .slice none 0 0, .slice none 0 0, .map none, .map none, .map none, .slice none 0 0, .slice none 0 0, .slice none 0 0, .slice none 0 0] 36) = w0 at *
  obtain ⟨N, hN⟩ : ∃ N, N = w.heap.size := ⟨_, rfl⟩
  have HN : Hid (N = w.heap.size) := hN
  rw [← hN] at HB0 HC0 HZ0 ⊢
  clear hN
  have HBX : Hid (∀ w', Below w0.heap.size w0 w' → Below w.heap.size w w') := fun w' h => by
    have h1 := HB0.out
    rw [HN.out] at h1
    exact h1.trans (h.mono (by rw [HZ0.out, HN.out]; omega))
  go_loopg [3, 4] (rs.length + 1) (fun gk v i wr => ∃ (k : Nat) (xs : List Value), k ≤ rs.length ∧ gk = rs.length + 1 - k ∧ i = .int .i64 k ∧ Hid (wr.ownsRow w0.heap.size 56 4 v k xs) ∧ Hid (Rows wr xs rs k) ∧ Hid (k = 0 → v = .slice none 0 0) ∧ Hid (Below w0.heap.size w0 wr))
  case atStart => exact ⟨0, [], Nat.zero_le _, rfl, rfl, World.ownsRow_nil _ _ _ _, fun i r h => absurd h (Nat.not_lt_zero _), fun _ => rfl, Below.refl _ _⟩
  case round =>
    obtain ⟨k, xs, hk, rfl, rfl, HOW, HRW, HK0, HB⟩ := hrel
    by_cases hlt : k < rs.length
    · rcases hR with h | ⟨b, o, rfl, hR⟩
      · simp [h] at hlt
      obtain ⟨r, hr⟩ : ∃ r, rs[k]? = some r := ⟨rs[k], List.getElem?_eq_getElem hlt⟩
      obtain ⟨A1, C1, A2, C2, d1, d2, d3, p1, p2, _⟩ := hR k r hr
      have HRk : Hid (rs[k]? = some r) := hr
      have HLP : Hid (r.pr.length ≤ 1048576 ∧ r.pa.length ≤ 1048576) := ⟨(HZ.out.pr r (List.mem_of_getElem? hr)).1, (HZ.out.pa r (List.mem_of_getElem? hr)).1⟩
      have HSRC : Hid (∀ w', Below w0.heap.size w0 w' → Ps w' A1 r.pr ∧ Ps w' A2 r.pa) := fun w' h => ⟨p1.below (HBX.out w' h), p2.below (HBX.out w' h)⟩
      have HQ : Hid (∀ w', Hid (Below w0.heap.size w0 w') → w'.cell? ⟨b, o + k * 3, none⟩ = some (.string r.name) ∧ w'.cell? ⟨b, o + k * 3 + 1, none⟩ = some (.slice A1 r.pr.length C1) ∧ w'.cell? ⟨b, o + k * 3 + 2, none⟩ = some (.slice A2 r.pa.length C2)) := fun w' h =>
        ⟨((HBX.out w' h.out).cell (block_lt_of_cell d1)).trans d1, ((HBX.out w' h.out).cell (block_lt_of_cell d2)).trans d2, ((HBX.out w' h.out).cell (block_lt_of_cell d3)).trans d3⟩
      have hkl : (k : Int) < (rs.length : Int) := by omega
      clear hR hr p1 p2 d1 d2 d3
      go_wp2_with fail
      go_region_held3 (fun w' => w'.cell? ⟨b, o + k * 3, none⟩ = some (.string r.name) ∧ w'.cell? ⟨b, o + k * 3 + 1, none⟩ = some (.slice A1 r.pr.length C1) ∧ w'.cell? ⟨b, o + k * 3 + 2, none⟩ = some (.slice A2 r.pa.length C2))
        (first | exact HQ.out _ HB.out.drew | exact HQ.out _ HB1 | exact HQ.out _ HB2 | exact HQ.out _ HB3 | exact HQ.out _ (HB3.out.alloc HB3.out.size _) | exact HQ.out _ HB5)
        (first
          | (go_at_call 18; revert HB1; intro HB1; refine (matchers18z _ A2 r.pa C2 HLP.out.2 (HSRC.out _ HB1.out).2).mono ?_; rintro e w2 ⟨B2, D2, rfl, hp2, hb2⟩; have HB2 : Hid (Below w0.heap.size w0 w2) := HB1.out.trans (hb2.mono HB1.out.size); have HO2 : Hid (w2.ownsRow w0.heap.size 56 4 u3 k xs) := own_below HO1.out hb2; have HR2 : Hid (Rows w2 xs rs k) := HR1.out.below hb2; have HPB : Hid (Ps0 w2 B1 r.pr ∧ Ps0 w2 B2 r.pa) := ⟨HPA.out.below hb2, hp2⟩; clear hb2 hp2)
          | (go_at_call 18; refine (matchers18z _ A1 r.pr C1 HLP.out.1 (HSRC.out _ HB.out.drew).1).mono ?_; rintro e w1 ⟨B1, D1, rfl, hp1, hb1⟩; have HB1 : Hid (Below w0.heap.size w0 w1) := HB.out.drew.trans (Below.mono (w := wr.drew) hb1 HB.out.size); have HO1 : Hid (w1.ownsRow w0.heap.size 56 4 u3 k xs) := own_below (w := wr.drew) HOW.out.drew hb1; have HR1 : Hid (Rows w1 xs rs k) := Rows.below (w := wr.drew) HRW.out hb1; have HPA : Hid (Ps0 w1 B1 r.pr) := hp1; clear hb1 hp1)
          | (go_at_call 17; refine (new17 _ r.name B1 B2 r.pr.length r.pa.length D1 D2).mono ?_; rintro e w3 ⟨rfl, hb3⟩; have HB3 : Hid (Below w0.heap.size w0 w3) := HB2.out.trans (hb3.mono HB2.out.size); have HO3 : Hid (w3.ownsRow w0.heap.size 56 4 u3 k xs) := own_below HO2.out hb3; have HR3 : Hid (Rows w3 xs rs k) := HR2.out.below hb3; have HPC : Hid (Ps0 w3 B1 r.pr ∧ Ps0 w3 B2 r.pa) := ⟨HPB.out.1.below hb3, HPB.out.2.below hb3⟩; clear hb3)
          | (refine step_append_lies _ (by rfl) _ _ _ (by rfl) w0.heap.size 56 i0 _ 4 72 Try.underlying30 hi hz0 hz1 hz2 rfl (by omega) u3 k xs (by rfl) (HO3.out.alloc _) ⟨w3.heap.size, 0, none⟩ 1 1 [.string r.name, .slice B1 r.pr.length D1, .slice B2 r.pa.length D2, .bool false] (by rfl) rfl (by exact news4 _ _ _ _ _ _) (by intro u hu; simp at hu; rcases hu with rfl | rfl | rfl | rfl <;> rfl) (by omega) (by unfold maxLen; omega) (by omega) (by have := HB3.out.size; simp; omega) (w3.heap.size + 1) (by simp) ?_; intro g cap w5 hown5 hgrow5 hat5 hlt5; have HB5 : Hid (Below w0.heap.size w0 w5) := (HB3.out.alloc HB3.out.size _).grown hgrow5 (by have := HB3.out.size; simp; omega) (fun q hq => (HO3.out.lt q hq).1)))
      have HO5 : Hid (∃ ys, w5.ownsRow w0.heap.size 56 4 (.slice (some ⟨g, 0, none⟩) (k + 1) cap) (k + 1) ys ∧ Rows w5 ys rs (k + 1)) := ⟨_, hown5, rows_next (HO3.out.alloc _) (HR3.out.below ((Below.refl _ _).alloc (Nat.le_refl _) _)) HK0.out HRk.out (HPC.out.1.below ((Below.refl _ _).alloc (Nat.le_refl _) _)) (HPC.out.2.below ((Below.refl _ _).alloc (Nat.le_refl _) _)) hgrow5 hown5⟩
      clear hown5 hgrow5 hat5 hlt5
      go_wp2
      go_roundg (rs.length + 1 - (k + 1))
      case rel =>
        obtain ⟨ys, h1, h2⟩ := HO5.out
        exact ⟨k + 1, ys, by omega, rfl, by go_num, h1, h2, fun h => by omega, HB5.out⟩
      case measure => omega
    · have hke : k = rs.length := by omega
      subst hke
      obtain ⟨A, C, hA, hRr⟩ := rr_of_own HOW.out HRW.out HROK.out
      subst hA
      clear hRr hR
      go_wp2_with fail
      refine (index_true _ a rs c HZ.out.len (HRL.out.below (HBX.out _ HB.out)) HZ.out.np HZ.out.pr).mono ?_
      rintro e w4 ⟨v1, rfl, hd1, hb4⟩
      obtain ⟨xa3, xa4, xa5, xa6, x0, x1, x2, xn3, xc3, xn4, xc4, xn5, xc5, xn6, xc6, rfl, hd1', hx0⟩ := hd1.forms
      have HB4 : Hid (Below w0.heap.size w0 w4) := HB.out.trans (hb4.mono HB.out.size)
      go_wp2_with fail
      refine (index_false _ a rs c HZ.out.len (HRL.out.below (HBX.out _ HB4.out)) HZ.out.na HZ.out.pa).mono ?_
      rintro e w5 ⟨v2, rfl, hd2, hb5⟩
      obtain ⟨ya3, ya4, ya5, ya6, y0, y1, y2, yn3, yc3, yn4, yc4, yn5, yc5, yn6, yc6, rfl, hd2', hy0⟩ := hd2.forms
      have HB5 : Hid (Below w0.heap.size w0 w5) := HB4.out.trans (hb5.mono HB4.out.size)
      go_wp2_with fail
      refine (new19 _ A xa3 xa4 xa5 xa6 ya3 ya4 ya5 ya6 rs.length C x0 x1 x2 xn3 xc3 xn4 xc4 xn5 xc5 xn6 xc6 y0 y1 y2 yn3 yc3 yn4 yc4 yn5 yc5 yn6 yc6).mono ?_
      rintro e w6 ⟨rfl, hb6⟩
      have HB6 : Hid (Below w0.heap.size w0 w6) := HB5.out.trans (hb6.mono HB5.out.size)
      have HNX : Hid (N < x0 ∧ N < y0) := by
        have h1 := HB.out.size
        have h2 := HB4.out.size
        have h3 := HZ0.out
        exact ⟨by omega, by omega⟩
      have HD1 : Hid (DoneC (fun r => r.pr) rs w6 x0 x1 x2 (.slice xa3 xn3 xc3) (.slice xa4 xn4 xc4) (.slice xa5 xn5 xc5) (.slice xa6 xn6 xc6)) := (hd1'.kept (grown_of_below hb5)).kept (grown_of_below hb6)
      have HD2 : Hid (DoneC (fun r => r.pa) rs w6 y0 y1 y2 (.slice ya3 yn3 yc3) (.slice ya4 yn4 yc4) (.slice ya5 yn5 yc5) (.slice ya6 yn6 yc6)) := hd2'.kept (grown_of_below hb6)
      have HO6 : Hid (w6.ownsRow w0.heap.size 56 4 (.slice A rs.length C) rs.length xs ∧ Rows w6 xs rs rs.length) := ⟨own_below (own_below (own_below HOW.out hb4) hb5) hb6, ((HRW.out.below hb4).below hb5).below hb6⟩
      have hC2 : w6.heap[N]? = some (.cells #[.slice none 0 0, .map none, .map none, .map none, .slice none 0 0, .slice none 0 0, .slice none 0 0, .slice none 0 0, .map none, .map none, .map none, .slice none 0 0, .slice none 0 0, .slice none 0 0, .slice none 0 0] 36) := (HB6.out.block N (by rw [HZ0.out]; omega)).trans HC0.out
      have q0 := cell_in hC2 0
      have q1 := cell_in hC2 1
      have q2 := cell_in hC2 2
      have q3 := cell_in hC2 3
      have q4 := cell_in hC2 4
      have q5 := cell_in hC2 5
      have q6 := cell_in hC2 6
      have q7 := cell_in hC2 7
      have q8 := cell_in hC2 8
      have q9 := cell_in hC2 9
      have q10 := cell_in hC2 10
      have q11 := cell_in hC2 11
      have q12 := cell_in hC2 12
      have q13 := cell_in hC2 13
      have q14 := cell_in hC2 14
      have dz := frozen_in hC2
      clear hb4 hb5 hb6 hd1 hd1' hd2 hd2' hx0 hy0 hC2
      go_wp2
      have HG : Hid (w6.grownBy (((((((((((((((w6.setCell ⟨N, 0, none⟩ (.slice A rs.length C)).setCell ⟨N, 1, none⟩ (.map (some x0))).setCell ⟨N, 2, none⟩ (.map (some x1))).setCell ⟨N, 3, none⟩ (.map (some x2))).setCell ⟨N, 4, none⟩ (.slice xa3 xn3 xc3)).setCell ⟨N, 5, none⟩ (.slice xa4 xn4 xc4)).setCell ⟨N, 6, none⟩ (.slice xa5 xn5 xc5)).setCell ⟨N, 7, none⟩ (.slice xa6 xn6 xc6)).setCell ⟨N, 8, none⟩ (.map (some y0))).setCell ⟨N, 9, none⟩ (.map (some y1))).setCell ⟨N, 10, none⟩ (.map (some y2))).setCell ⟨N, 11, none⟩ (.slice ya3 yn3 yc3)).setCell ⟨N, 12, none⟩ (.slice ya4 yn4 yc4)).setCell ⟨N, 13, none⟩ (.slice ya5 yn5 yc5)).setCell ⟨N, 14, none⟩ (.slice ya6 yn6 yc6)) (some N)) := (((((((((((((((grown_set w6 ⟨N, 0, none⟩ _).trans (grown_set _ ⟨N, 1, none⟩ _)).trans (grown_set _ ⟨N, 2, none⟩ _)).trans (grown_set _ ⟨N, 3, none⟩ _)).trans (grown_set _ ⟨N, 4, none⟩ _)).trans (grown_set _ ⟨N, 5, none⟩ _)).trans (grown_set _ ⟨N, 6, none⟩ _)).trans (grown_set _ ⟨N, 7, none⟩ _)).trans (grown_set _ ⟨N, 8, none⟩ _)).trans (grown_set _ ⟨N, 9, none⟩ _)).trans (grown_set _ ⟨N, 10, none⟩ _)).trans (grown_set _ ⟨N, 11, none⟩ _)).trans (grown_set _ ⟨N, 12, none⟩ _)).trans (grown_set _ ⟨N, 13, none⟩ _)).trans (grown_set _ ⟨N, 14, none⟩ _))
      refine bodyPost_ret (v := .agg #[.slice A rs.length C, .map (some x0), .map (some x1), .map (some x2), .slice xa3 xn3 xc3, .slice xa4 xn4 xc4, .slice xa5 xn5 xc5, .slice xa6 xn6 xc6, .map (some y0), .map (some y1), .map (some y2), .slice ya3 yn3 yc3, .slice ya4 yn4 yc4, .slice ya5 yn5 yc5, .slice ya6 yn6 yc6]) (by simp [results, Try.results10, go_sem, q0, q1, q2, q3, q4, q5, q6, q7, q8, q9, q10, q11, q12, q13, q14]) rfl ⟨_, rfl, ?_, (HBX.out _ HB6.out).grown HG.out (HBX.out _ HB6.out).size (fun g hg => by have h1 := Option.some.inj hg; have h2 := HN.out; omega)⟩
      have hne : ∀ b f, w6.cell? ⟨b, 0, none⟩ = some (.int .u8 f) → some b ≠ some N := fun b f hb e => by
        have e1 := Option.some.inj e
        subst e1
        rw [q0] at hb
        simp at hb
      have hO7 := HO6.out.1.kept HG.out (.inr (by
        intro e
        have h1 := (HO6.out.1.lt _ e).1
        have h2 := HZ0.out
        omega))
      obtain ⟨A', C', hA', hRr'⟩ := rr_of_own hO7 (HO6.out.2.grown HG.out hne) HROK.out
      injection hA' with hA1 hA2 hA3
      subst hA1
      exact ⟨A, xa3, xa4, xa5, xa6, ya3, ya4, ya5, ya6, C, x0, x1, x2, xn3, xc3, xn4, xc4, xn5, xc5, xn6, xc6, y0, y1, y2, yn3, yc3, yn4, yc4, yn5, yc5, yn6, yc6, rfl, hRr', HD1.out.far HG.out HNX.out.1, HD2.out.far HG.out HNX.out.2⟩
end Go.Proofs.Qxb6627205a
