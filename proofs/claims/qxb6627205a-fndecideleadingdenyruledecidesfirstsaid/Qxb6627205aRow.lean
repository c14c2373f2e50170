import Derived.Test.Qxb6627205aBuild
namespace Go.Proofs.Qxb6627205a
open Go.RowKit Go.Maps

attribute [local go_sem ↓] Go.wp_at_zero Go.wp_at_succ

def Ps0 (w : World) (a : Option Addr) (ps : List Pat) : Prop := ps = [] ∨ ∃ b, a = some ⟨b, 0, none⟩ ∧ ∀ (k : Nat) p, ps[k]? = some p → P1 w b (0 + k * 2) p
theorem Ps0.ps {w : World} {a : Option Addr} {ps : List Pat} (h : Ps0 w a ps) : Ps w a ps := by
  rcases h with h | ⟨b, h1, h2⟩
  · exact .inl h
  · exact .inr ⟨b, 0, h1, h2⟩
theorem Ps0.below {w w' : World} {a : Option Addr} {ps : List Pat} (h : Ps0 w a ps) (hb : Below w.heap.size w w') : Ps0 w' a ps := by
  rcases h with h | ⟨b, h1, h2⟩
  · exact .inl h
  · exact .inr ⟨b, h1, fun k p hp => (h2 k p hp).below hb⟩
theorem Ps0.grown {w w' : World} {a : Option Addr} {ps : List Pat} {row : Option Nat} (h : Ps0 w a ps) (hg : w.grownBy w' row) (hne : ∀ b f, w.cell? ⟨b, 0, none⟩ = some (.int .u8 f) → some b ≠ row) : Ps0 w' a ps := by
  rcases h with h | ⟨b, h1, h2⟩
  · exact .inl h
  · cases ps with
    | nil => exact .inl rfl
    | cons q ps =>
      have hq := h2 0 q rfl
      have hb := hne b _ hq.1
      refine .inr ⟨b, h1, fun k p hp => ?_⟩
      obtain ⟨c1, c2, r⟩ := h2 k p hp
      exact ⟨(hg.cell_far _ (block_lt_of_cell c1) hb).trans c1, (hg.cell_far _ (block_lt_of_cell c2) hb).trans c2, r⟩
theorem ps0_of_own {w : World} {base : Nat} {v : Value} {ps : List Pat} (h : w.ownsRow base 69 2 v ps.length (mcells ps)) (hok : OkPs ps) : ∃ A C, v = .slice A ps.length C ∧ Ps0 w A ps := by
  rcases h.2 with ⟨h1, h2⟩ | ⟨g, cap, cur, h1, _⟩
  · exact ⟨none, 0, by rw [h1, h2], .inl (List.eq_nil_of_length_eq_zero h2)⟩
  · refine ⟨some ⟨g, 0, none⟩, cap, h1, .inr ⟨g, rfl, fun k p hp => ?_⟩⟩
    subst h1
    have hlt := (List.getElem?_eq_some_iff.1 hp).1
    have hg := mcells_get ps k p hp
    refine ⟨?_, ?_, hok p (List.mem_of_getElem? hp)⟩
    · rw [Nat.zero_add, h.cellAt _ (by omega)]; exact hg.1
    · rw [Nat.zero_add, h.cellAt _ (by omega)]; exact hg.2

set_option maxHeartbeats 1600000 in
theorem matchers18z (w : World) (a : Option Addr) (ps : List Pat) (c : Nat) (hl : ps.length ≤ 1048576) (hP : Ps w a ps) :
    Calls Try.prog 18 #[.slice a ps.length c] w fun e w' => ∃ A C, e = .returned (.slice A ps.length C) ∧ Ps0 w' A ps ∧ Below w.heap.size w w' := by
  obtain ⟨i0, hi, hz0, hz1, hz2⟩ := info_parts Try.info69
  have HOK : Hid (OkPs ps) := hP.ok
  go_enter Try.func18, Try.ntmps18
  go_wp2
  go_loopg [3, 4] (ps.length + 1) (fun gk v i wr => ∃ k : Nat, k ≤ ps.length ∧ gk = ps.length + 1 - k ∧ i = .int .i64 k ∧ wr.ownsRow w.heap.size 69 2 v k (mcells (ps.take k)) ∧ Below w.heap.size w wr)
  case atStart => exact ⟨0, Nat.zero_le _, rfl, rfl, World.ownsRow_nil _ _ _ _, Below.refl _ _⟩
  case round =>
    obtain ⟨k, hk, rfl, rfl, hown, hb⟩ := hrel
    by_cases hlt : k < ps.length
    · rcases hP with h | ⟨b, o, rfl, hP⟩
      · simp [h] at hlt
      obtain ⟨p, hp⟩ : ∃ p, ps[k]? = some p := ⟨ps[k], List.getElem?_eq_getElem hlt⟩
      have HP1 : Hid (P1 w b (o + k * 2) p) := hP k p hp
      have HPk : Hid (ps[k]? = some p) := hp
      have hkl : (k : Int) < (ps.length : Int) := by omega
      have hq : ∀ w', Hid (Below w.heap.size w w') → w'.cell? ⟨b, o + k * 2, none⟩ = some (.int .u8 p.form) ∧ w'.cell? ⟨b, o + k * 2 + 1, none⟩ = some (.string p.text) := fun w' h => ⟨(h.out.cell (block_lt_of_cell HP1.out.1)).trans HP1.out.1, (h.out.cell (block_lt_of_cell HP1.out.2.1)).trans HP1.out.2.1⟩
      have HQ : Hid (∀ w', Hid (Below w.heap.size w w') → w'.cell? ⟨b, o + k * 2, none⟩ = some (.int .u8 p.form) ∧ w'.cell? ⟨b, o + k * 2 + 1, none⟩ = some (.string p.text)) := hq
      have HB : Hid (Below w.heap.size w wr) := hb
      have HOW : Hid (wr.ownsRow w.heap.size 69 2 u3 k (mcells (ps.take k))) := hown
      clear hP hp hq hown hb
      go_wp2_with fail
      go_region_held3 (fun w' => w'.cell? ⟨b, o + k * 2, none⟩ = some (.int .u8 p.form) ∧ w'.cell? ⟨b, o + k * 2 + 1, none⟩ = some (.string p.text))
        (first | exact HQ.out _ HB.out.drew | exact HQ.out _ HB1 | exact HQ.out _ (HB1.out.alloc HB1.out.size _) | exact HQ.out _ HB3)
        (first
          | (go_at_call 26; refine (new26 _ p.form p.text).mono ?_; rintro e w1 ⟨rfl, hb1⟩; have HB1 : Hid (Below w.heap.size w w1) := HB.out.drew.trans (Below.mono (w := wr.drew) hb1 HB.out.size); have HO1 : Hid (w1.ownsRow w.heap.size 69 2 u3 k (mcells (ps.take k))) := own_below (w := wr.drew) HOW.out.drew hb1; clear hb1)
          | (refine step_append_lies _ (by rfl) _ _ _ (by rfl) w.heap.size 69 i0 _ 2 24 Try.underlying54 hi hz0 hz1 hz2 rfl (by omega) u3 k (mcells (ps.take k)) (by rfl) (HO1.out.alloc _) ⟨w1.heap.size, 0, none⟩ 1 1 [.int .u8 p.form, .string p.text] (by rfl) rfl (by exact news2 _ _ _ _) (by intro u hu; simp at hu; rcases hu with rfl | rfl <;> rfl) (by omega) (by unfold maxLen; omega) (by omega) (by have := HB1.out.size; simp; omega) (w1.heap.size + 1) (by simp) ?_; intro g cap w3 hown3 hgrow3 hat3 hlt3; have HB3 : Hid (Below w.heap.size w w3) := (HB1.out.alloc HB1.out.size _).grown hgrow3 (by have := HB1.out.size; simp; omega) (fun q hq => (HO1.out.lt q hq).1)))
      have HO3 : Hid (w3.ownsRow w.heap.size 69 2 (.slice (some ⟨g, 0, none⟩) (k + 1) cap) (k + 1) (mcells (ps.take (k + 1)))) := by
        rw [mcells_snoc ps k p HPk.out] at hown3; exact hown3
      clear hown3 hgrow3 hat3 hlt3
      go_wp2
      go_roundg (ps.length + 1 - (k + 1))
      case rel => exact ⟨k + 1, by omega, rfl, by go_num, HO3.out, HB3.out⟩
      case measure => omega
    · have hke : k = ps.length := by omega
      subst hke
      rw [List.take_length] at hown
      obtain ⟨A, C, rfl, hA⟩ := ps0_of_own hown HOK.out
      have HA : Hid (Ps0 wr A ps) := hA
      clear hown hA
      go_wp2
      go_ret
      exact ⟨A, C, rfl, HA.out, hb⟩

/-- The first k rules lie in the row. -/
def Rows (w : World) (xs : List Value) (rs : List Rule) (k : Nat) : Prop := ∀ (i : Nat) r, i < k → rs[i]? = some r → ∃ A1 C1 A2 C2, xs[i * 4]? = some (.string r.name) ∧ xs[i * 4 + 1]? = some (.slice A1 r.pr.length C1) ∧ xs[i * 4 + 2]? = some (.slice A2 r.pa.length C2) ∧ Ps0 w A1 r.pr ∧ Ps0 w A2 r.pa
theorem Rows.below {w w' : World} {xs : List Value} {rs : List Rule} {k : Nat} (h : Rows w xs rs k) (hb : Below w.heap.size w w') : Rows w' xs rs k := by
  intro i r hi hr
  obtain ⟨A1, C1, A2, C2, h1, h2, h3, h4, h5⟩ := h i r hi hr
  exact ⟨A1, C1, A2, C2, h1, h2, h3, h4.below hb, h5.below hb⟩
theorem rows_next {w w' : World} {base cap g k : Nat} {v : Value} {xs : List Value} {rs : List Rule} {r : Rule} {A1 A2 : Option Addr} {C1 C2 : Nat} {last : Value} (hown : w.ownsRow base 56 4 v k xs) (h : Rows w xs rs k) (h0 : k = 0 → v = .slice none 0 0) (hr : rs[k]? = some r) (p1 : Ps0 w A1 r.pr) (p2 : Ps0 w A2 r.pa) (hg : w.grownBy w' v.ownBlock)
    (hown' : w'.ownsRow base 56 4 (.slice (some ⟨g, 0, none⟩) (k + 1) cap) (k + 1) (xs ++ [.string r.name, .slice A1 r.pr.length C1, .slice A2 r.pa.length C2, last])) : Rows w' (xs ++ [.string r.name, .slice A1 r.pr.length C1, .slice A2 r.pa.length C2, last]) rs (k + 1) := by
  have hlen : xs.length = k * 4 := hown.1
  have hne : ∀ b f, w.cell? ⟨b, 0, none⟩ = some (.int .u8 f) → some b ≠ v.ownBlock := by
    intro b f hb e
    by_cases hk : k = 0
    · rw [h0 hk] at e; simp [Value.ownBlock] at e
    · have hk0 : 0 < k := by omega
      have hlt : k < rs.length := (List.getElem?_eq_some_iff.1 hr).1
      obtain ⟨_, _, _, _, q, _⟩ := h 0 rs[0] hk0 (List.getElem?_eq_getElem (by omega))
      rcases hown.2 with ⟨_, e2⟩ | ⟨g', cap', cur, e2, _⟩
      · exact hk e2
      · subst e2
        have e3 : b = g' := by simpa [Value.ownBlock] using e
        subst e3
        have := hown.cellAt 0 (by omega)
        rw [hb] at this
        simp only [Nat.zero_mul] at q
        rw [q] at this
        cases this
  intro i r' hi hr'
  by_cases e : i = k
  · subst e
    rw [hr] at hr'
    cases hr'
    refine ⟨A1, C1, A2, C2, ?_, ?_, ?_, p1.grown hg hne, p2.grown hg hne⟩
    · rw [List.getElem?_append_right (by omega), hlen, Nat.sub_self]; rfl
    · rw [List.getElem?_append_right (by omega), hlen, show i * 4 + 1 - i * 4 = 1 by omega]; rfl
    · rw [List.getElem?_append_right (by omega), hlen, show i * 4 + 2 - i * 4 = 2 by omega]; rfl
  · obtain ⟨B1, D1, B2, D2, h1, h2, h3, h4, h5⟩ := h i r' (by omega) hr'
    exact ⟨B1, D1, B2, D2, by rw [List.getElem?_append_left (by omega)]; exact h1, by rw [List.getElem?_append_left (by omega)]; exact h2, by rw [List.getElem?_append_left (by omega)]; exact h3, h4.grown hg hne, h5.grown hg hne⟩
/-- A row of rules. -/
def Rr (w : World) (a : Option Addr) (rs : List Rule) : Prop := rs = [] ∨ ∃ b o, a = some ⟨b, o, none⟩ ∧ ∀ (k : Nat) r, rs[k]? = some r → R1 w b (o + k * 4) r
theorem Rr.below {w w' : World} {a : Option Addr} {rs : List Rule} (h : Rr w a rs) (hb : Below w.heap.size w w') : Rr w' a rs := by
  rcases h with h | ⟨b, o, h1, h2⟩
  · exact .inl h
  · exact .inr ⟨b, o, h1, fun k p hp => (h2 k p hp).below hb⟩
theorem rr_of_own {w : World} {base : Nat} {v : Value} {rs : List Rule} {xs : List Value} (h : w.ownsRow base 56 4 v rs.length xs) (hr : Rows w xs rs rs.length) (hok : ∀ r ∈ rs, r.name.size ≤ maxLen ∧ r.pr.length ≤ maxLen ∧ r.pa.length ≤ maxLen) : ∃ A C, v = .slice A rs.length C ∧ Rr w A rs := by
  have hlen : xs.length = rs.length * 4 := h.1
  rcases h.2 with ⟨h1, h2⟩ | ⟨g, cap, cur, h1, _⟩
  · exact ⟨none, 0, by rw [h1, h2], .inl (List.eq_nil_of_length_eq_zero h2)⟩
  · refine ⟨some ⟨g, 0, none⟩, cap, h1, .inr ⟨g, 0, rfl, fun k r hk => ?_⟩⟩
    subst h1
    have hlt := (List.getElem?_eq_some_iff.1 hk).1
    obtain ⟨A1, C1, A2, C2, q1, q2, q3, q4, q5⟩ := hr k r hlt hk
    refine ⟨A1, C1, A2, C2, ?_, ?_, ?_, q4.ps, q5.ps, hok r (List.mem_of_getElem? hk)⟩
    · rw [Nat.zero_add, h.cellAt _ (by omega)]; exact q1
    · rw [Nat.zero_add, h.cellAt _ (by omega)]; exact q2
    · rw [Nat.zero_add, h.cellAt _ (by omega)]; exact q3
theorem news4 (w : World) (x y z u : Value) (t : TypeId) : ∀ j q, [x, y, z, u][j]? = some q → (w.alloc (.cells #[x, y, z, u] t)).cell? ((⟨w.heap.size, 0, none⟩ : Addr).add j) = some q := by
  intro j q hu
  rw [WideShapes.add_plain, Nat.zero_add, World.cell?_alloc_new]
  simpa using hu
theorem R1.ok {w : World} {b o : Nat} {r : Rule} (h : R1 w b o r) : r.name.size ≤ maxLen ∧ r.pr.length ≤ maxLen ∧ r.pa.length ≤ maxLen := by
  obtain ⟨_, _, _, _, _, _, _, _, _, h⟩ := h
  exact h
theorem Rl.ok {w : World} {a : Option Addr} {rs : List Rule} (h : Rl w a rs) : ∀ r ∈ rs, r.name.size ≤ maxLen ∧ r.pr.length ≤ maxLen ∧ r.pa.length ≤ maxLen := by
  intro r hr
  obtain ⟨k, hk⟩ := List.getElem?_of_mem hr
  rcases h with h | ⟨b, o, _, h2⟩
  · subst h; simp at hk
  · exact (h2 k r hk).ok
end Go.Proofs.Qxb6627205a
