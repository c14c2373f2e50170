import Derived.Test.Qxb6627205aStep
namespace Go.Proofs.Qxb6627205a
open Go.RowKit

attribute [local go_sem ↓] Go.wp_at_zero Go.wp_at_succ

/-- How many elements at the head are less than n. -/
def lowK (l : List Int) (n : Int) : Nat := (l.takeWhile (fun x => decide (x < n))).length
def insL (l : List Int) (n : Int) : List Int := if l[lowK l n]? = some n then l else l.take (lowK l n) ++ n :: l.drop (lowK l n)
theorem lowK_eq (l : List Int) (n : Int) (k : Nat) (hk : k ≤ l.length) (h1 : ∀ t, t < k → l.getD t 0 < n) (h2 : k < l.length → ¬ l.getD k 0 < n) : lowK l n = k := by
  unfold lowK
  induction l generalizing k with
  | nil => simp at hk; simp [hk]
  | cons x l ih =>
    cases k with
    | zero =>
      have := h2 (by simp)
      simp at this
      rw [List.takeWhile_cons_of_neg (by simpa using this)]; rfl
    | succ k =>
      have hx := h1 0 (by omega)
      simp at hx
      rw [List.takeWhile_cons_of_pos (by simpa using hx), List.length_cons]
      congr 1
      exact ih k (by simpa using hk) (fun t ht => by have := h1 (t + 1) (by omega); simpa using this) (fun h => by have := h2 (by simpa using h); simpa using this)

theorem ints_at {l : List Int} {t : Nat} {x : Int} (h : l[t]? = some x) : (ints l)[t]? = some (.int .i64 x) := by simp only [ints, List.getElem?_map, h]; rfl

/-- The row while it is shifted: j is where the hole lies. -/
def Shift (w1 wr : World) (base g cap : Nat) (l : List Int) (j : Nat) : Prop :=
  ∃ xs : List Value, wr.ownsRow base 3 1 (.slice (some ⟨g, 0, none⟩) (l.length + 1) cap) (l.length + 1) xs ∧ (∀ t, t ≤ l.length → xs[t]? = some (.int .i64 (if t ≤ j then (l ++ [0]).getD t 0 else l.getD (t - 1) 0))) ∧ w1.grownBy wr (some g)
theorem shift_cell {w1 wr : World} {base g cap j t : Nat} {l : List Int} (h : Shift w1 wr base g cap l j) (ht : t ≤ l.length) : wr.cell? ⟨g, t, none⟩ = some (.int .i64 (if t ≤ j then (l ++ [0]).getD t 0 else l.getD (t - 1) 0)) ∧ wr.frozen? ⟨g, t, none⟩ = false := by
  obtain ⟨xs, h1, h2, h3⟩ := h
  exact ⟨by rw [h1.cellAt t (by omega)]; exact h2 t ht, h1.frozenAt t⟩
theorem shift_step {w1 wr : World} {base g cap j : Nat} {l : List Int} (h : Shift w1 wr base g cap l (j + 1)) (hj : j + 1 ≤ l.length) : Shift w1 (wr.setCell ⟨g, j + 1, none⟩ (.int .i64 (l.getD j 0))) base g cap l j := by
  obtain ⟨xs, h1, h2, h3⟩ := h
  have hlen : xs.length = l.length + 1 := by simpa using h1.1
  have hst := h1.stored (j + 1) (.int .i64 (l.getD j 0))
  refine ⟨_, hst.1, fun t ht => ?_, h3.trans hst.2⟩
  by_cases e : t = j + 1
  · subst e
    rw [List.getElem?_set_self (by omega), if_neg (by omega)]
    rfl
  · rw [List.getElem?_set_ne (fun h => e h.symm), h2 t ht]
    by_cases h' : t ≤ j
    · rw [if_pos (by omega), if_pos h']
    · rw [if_neg (by omega), if_neg h']
theorem shift_end {w1 wr : World} {base g cap k : Nat} {l : List Int} (n : Int) (h : Shift w1 wr base g cap l k) (hk : k ≤ l.length) : (wr.setCell ⟨g, k, none⟩ (.int .i64 n)).ownsRow base 3 1 (.slice (some ⟨g, 0, none⟩) (l.length + 1) cap) (l.length + 1) (ints (l.take k ++ n :: l.drop k)) ∧ w1.grownBy (wr.setCell ⟨g, k, none⟩ (.int .i64 n)) (some g) := by
  obtain ⟨xs, h1, h2, h3⟩ := h
  have hlen : xs.length = l.length + 1 := by simpa using h1.1
  have hst := h1.stored k (.int .i64 n)
  have e : xs.set k (.int .i64 n) = ints (l.take k ++ n :: l.drop k) := by
    apply List.ext_getElem?
    intro t
    by_cases ht : t ≤ l.length
    · by_cases e : t = k
      · subst e
        rw [List.getElem?_set_self (by omega)]
        have : (l.take t ++ n :: l.drop t)[t]? = some n := by rw [List.getElem?_append_right (by simp; omega)]; simp [List.length_take, Nat.min_eq_left hk]
        rw [ints_at this]
      · rw [List.getElem?_set_ne (fun h => e h.symm), h2 t ht]
        by_cases h' : t ≤ k
        · rw [if_pos h']
          have h1 : (l ++ [0]).getD t 0 = l.getD t 0 := by simp [List.getD, List.getElem?_append_left (show t < l.length by omega)]
          have : (l.take k ++ n :: l.drop k)[t]? = some (l.getD t 0) := by
            rw [List.getElem?_append_left (by simp; omega), List.getElem?_take, if_pos (by omega)]
            simp [List.getD, show t < l.length by omega]
          rw [ints_at this, h1]
        · rw [if_neg h']
          have : (l.take k ++ n :: l.drop k)[t]? = some (l.getD (t - 1) 0) := by
            rw [List.getElem?_append_right (by simp; omega), List.length_take, Nat.min_eq_left hk]
            obtain ⟨q, rfl⟩ : ∃ q, t = k + (q + 1) := ⟨t - k - 1, by omega⟩
            rw [show k + (q + 1) - k = q + 1 by omega, List.getElem?_cons_succ, List.getElem?_drop, show k + (q + 1) - 1 = k + q by omega]
            simp [List.getD, show k + q < l.length by omega]
          rw [ints_at this]
    · rw [List.getElem?_eq_none (by simp; omega), List.getElem?_eq_none (by simp [ints]; omega)]
  rw [e] at hst
  exact ⟨hst.1, h3.trans hst.2⟩
theorem insL_len (l : List Int) (n : Int) (k : Nat) (hk : k ≤ l.length) : (l.take k ++ n :: l.drop k).length = l.length + 1 := by simp; omega

theorem getD_app (l : List Int) (j : Nat) (h : j < l.length) : (l ++ [0]).getD j 0 = l.getD j 0 := by simp [List.getD, List.getElem?_append_left h]
theorem grown_fresh {a b c : World} {row : Option Nat} {g : Nat} (h : a.grownBy b row) (k : b.grownBy c (some g)) (hg : row = some g ∨ a.heap.size ≤ g) : a.grownBy c row := by
  rcases hg with hg | hg
  · subst hg; exact h.trans k
  · refine ⟨k.os.trans h.os, k.tape.trans h.tape, k.output.trans h.output, Nat.le_trans h.size k.size, fun i hi hne => ?_⟩
    rw [k.block i (Nat.lt_of_lt_of_le hi h.size) (by intro e; have := Option.some.inj e; omega)]
    exact h.block i hi hne

set_option maxHeartbeats 1600000 in
theorem ins_some (w : World) (base g cap : Nat) (l : List Int) (n : Nat) (hown : w.ownsRow base 3 1 (.slice (some ⟨g, 0, none⟩) l.length cap) l.length (ints l)) (hl : l.length ≤ 4194304) (hb : base ≤ w.heap.size) :
    Calls Try.prog 28 #[.slice (some ⟨g, 0, none⟩) l.length cap, .int .i64 n] w fun e w' => ∃ v', e = .returned v' ∧ Step base w w' (.slice (some ⟨g, 0, none⟩) l.length cap) v' (insL l n) := by
  obtain ⟨i0, hi, hz0, hz1, hz2⟩ := info_parts Try.info3
  have hcell : ∀ t, t < l.length → w.cell? ⟨g, t, none⟩ = some (.int .i64 (l.getD t 0)) := fun t ht => by rw [hown.cellAt t (by omega)]; exact ints_get l t ht
  have HCELL : Hid (∀ t, t < l.length → w.cell? ⟨g, t, none⟩ = some (.int .i64 (l.getD t 0))) := hcell
  clear hcell
  go_enter Try.func28, Try.ntmps28
  go_wp2
  go_loopg [5] (l.length + 1) (fun gk i wr => ∃ k : Nat, k ≤ l.length ∧ gk = l.length + 1 - k ∧ i = .int .i64 k ∧ Hid (∀ t, t < k → l.getD t 0 < n) ∧ wr = w)
  case atStart => exact ⟨0, Nat.zero_le _, rfl, rfl, fun t ht => absurd ht (Nat.not_lt_zero _), rfl⟩
  case round =>
    obtain ⟨k, hk, rfl, rfl, HN, rfl⟩ := hrel
    by_cases hlow : k < l.length ∧ l.getD k 0 < n
    · obtain ⟨hlt, hlow⟩ := hlow
      obtain ⟨x, hx⟩ : ∃ x, x = l.getD k 0 := ⟨_, rfl⟩
      have hc := HCELL.out k hlt
      rw [← hx] at hc hlow
      have HX : Hid (x = l.getD k 0) := hx
      clear hx
      have hkl : (k : Int) < (l.length : Int) := by omega
      go_wp2
      go_roundg (l.length + 1 - (k + 1))
      case rel => exact ⟨k + 1, by omega, rfl, by go_num, fun t ht => by
                      by_cases e : t = k
                      · subst e; rw [← HX.out]; exact hlow
                      · exact HN.out t (by omega), rfl⟩
      case measure => omega
    · have HK : Hid (lowK l n = k) := lowK_eq l n k hk HN.out (fun h => fun h' => hlow ⟨h, h'⟩)
      by_cases heq : l[k]? = some (n : Int)
      · have hlt := (List.getElem?_eq_some_iff.1 heq).1
        have hc := HCELL.out k hlt
        have hx : l.getD k 0 = (n : Int) := by simp [List.getD, heq]
        rw [hx] at hc
        have hkl : (k : Int) < (l.length : Int) := by omega
        have HI : Hid (insL l n = l) := by show insL l n = l; simp [insL, HK.out, heq]
        have HO : Hid (wr.ownsRow base 3 1 (.slice (some ⟨g, 0, none⟩) l.length cap) l.length (ints l)) := hown
        clear hown hlow heq hx
        go_wp2
        go_ret
        exact ⟨_, rfl, by rw [HI.out]; exact ⟨HO.out, World.grownBy.refl _ _, .inl rfl⟩⟩
      · have HI : Hid (insL l n = l.take k ++ (n : Int) :: l.drop k) := by show insL l n = _; simp [insL, HK.out, heq]
        have hh : (k : Int) < (l.length : Int) → ∃ x : Int, wr.cell? ⟨g, k, none⟩ = some (.int .i64 x) ∧ ¬ x < n ∧ (x == (n : Int)) = false := fun h => by
          have hlt : k < l.length := by omega
          refine ⟨l.getD k 0, HCELL.out k hlt, fun h' => hlow ⟨hlt, h'⟩, ?_⟩
          simp only [beq_eq_false_iff_ne]
          intro h'
          apply heq
          rw [List.getElem?_eq_getElem hlt]
          simp [List.getD, hlt] at h'
          rw [h']
        clear hlow heq
        by_cases hlt : k < l.length
        · obtain ⟨x, hc, hx1, hx2⟩ := hh (by omega)
          have hkl : (k : Int) < (l.length : Int) := by omega
          clear hh
          go_wp2_with (first
            | (at_builtin; refine wpList_append_lies _ rfl _ _ 32 rfl base 3 i0 (.int .i64 0) 1 8 Try.underlying32 hi hz0 hz1 hz2 rfl (by omega) (.slice (some ⟨g, 0, none⟩) l.length cap) l.length (ints l) rfl (by exact hown.alloc _) ⟨wr.heap.size, 0, none⟩ 1 1 [.int .i64 0] rfl rfl (by exact cell_one_new wr _ _) (by intro u hu; simp at hu; subst hu; rfl) (by omega) (by unfold maxLen; omega) (by omega) (by simp; omega) (wr.heap.size + 1) (by simp) ?_; intro g2 cap2 w1 hown1 hgrow1 hat1 hlt1))
          have HG : Hid (wr.grownBy w1 (some g)) := (World.grownBy_alloc wr _ _).trans hgrow1
          have HS1 : Hid (Shift w1 w1 base g2 cap2 l l.length) := ⟨_, hown1, fun t ht => by
            rw [ints_snoc, if_pos ht]
            exact ints_get (l ++ [0]) t (by simp; omega), World.grownBy.refl _ _⟩
          have HAT : Hid (g = g2 ∨ wr.heap.size ≤ g2) := by
            rcases hat1 with h | h
            · exact .inl (by simpa [Value.ownBlock] using h)
            · exact .inr (by omega)
          clear hown1 hgrow1 hat1 hlt1 hown
          obtain ⟨wo, hwo⟩ : ∃ wo : World, wo = wr := ⟨_, rfl⟩
          subst hwo
          go_loopg [6] (l.length - k) (fun gk j wi => ∃ t : Nat, k ≤ t ∧ t ≤ l.length ∧ gk = t - k ∧ j = .int .i64 t ∧ Shift w1 wi base g2 cap2 l t)
          case atStart => exact ⟨l.length, hk, Nat.le_refl _, rfl, by go_num, HS1.out⟩
          case round =>
            clear HS1
            obtain ⟨t, hkt, htl, rfl, rfl, hsh⟩ := hrel
            by_cases hgt : k < t
            · obtain ⟨j, rfl⟩ : ∃ j, t = j + 1 := ⟨t - 1, by omega⟩
              have hc1 := (shift_cell hsh (t := j) (by omega)).1
              rw [if_pos (by omega), getD_app l j (by omega)] at hc1
              obtain ⟨hc2, hf2⟩ := shift_cell hsh (t := j + 1) htl
              have HSH : Hid (Shift w1 (wr.setCell ⟨g2, j + 1, none⟩ (.int .i64 (l.getD j 0))) base g2 cap2 l j) := shift_step hsh htl
              generalize l.getD j 0 = y at *
              have htn : (((j + 1 : Nat) : Int) - 1).toNat = j := by omega
              have hcc : ((j + 1 : Nat) : Int) - 1 = (j : Int) := by omega
              have hgt' : (k : Int) < ((j + 1 : Nat) : Int) := by omega
              clear hsh
              go_wp2
              go_roundg (j - k)
              case rel => exact ⟨j, by omega, by omega, rfl, by go_num, HSH.out⟩
              case measure => omega
            · have hte : t = k := by omega
              subst hte
              obtain ⟨hc2, hf2⟩ := shift_cell hsh (t := t) htl
              have HE : Hid ((wr.setCell ⟨g2, t, none⟩ (.int .i64 n)).ownsRow base 3 1 (.slice (some ⟨g2, 0, none⟩) (l.length + 1) cap2) (l.length + 1) (ints (l.take t ++ (n : Int) :: l.drop t)) ∧ w1.grownBy (wr.setCell ⟨g2, t, none⟩ (.int .i64 n)) (some g2)) := shift_end n hsh htl
              have hcl : (t : Int) < ((l.length + 1 : Nat) : Int) := by omega
              clear hsh
              go_wp2
              go_ret
              refine ⟨_, rfl, ?_⟩
              rw [HI.out]
              refine ⟨by rw [insL_len l n t htl]; exact HE.out.1, grown_fresh HG.out HE.out.2 ?_, ?_⟩
              · rcases HAT.out with h | h
                · exact .inl (by simp [Value.ownBlock, h])
                · exact .inr h
              · rcases HAT.out with h | h
                · exact .inl (by simp [Value.ownBlock, h])
                · exact .inr ⟨g2, rfl, h⟩
        · have hkl : (l.length : Int) ≤ (k : Int) := by omega
          clear hh
          go_wp2_with (first
            | (at_builtin; refine wpList_append_lies _ rfl _ _ 32 rfl base 3 i0 (.int .i64 0) 1 8 Try.underlying32 hi hz0 hz1 hz2 rfl (by omega) (.slice (some ⟨g, 0, none⟩) l.length cap) l.length (ints l) rfl (by exact hown.alloc _) ⟨wr.heap.size, 0, none⟩ 1 1 [.int .i64 0] rfl rfl (by exact cell_one_new wr _ _) (by intro u hu; simp at hu; subst hu; rfl) (by omega) (by unfold maxLen; omega) (by omega) (by simp; omega) (wr.heap.size + 1) (by simp) ?_; intro g2 cap2 w1 hown1 hgrow1 hat1 hlt1))
          have HG : Hid (wr.grownBy w1 (some g)) := (World.grownBy_alloc wr _ _).trans hgrow1
          have HS1 : Hid (Shift w1 w1 base g2 cap2 l l.length) := ⟨_, hown1, fun t ht => by
            rw [ints_snoc, if_pos ht]
            exact ints_get (l ++ [0]) t (by simp; omega), World.grownBy.refl _ _⟩
          have HAT : Hid (g = g2 ∨ wr.heap.size ≤ g2) := by
            rcases hat1 with h | h
            · exact .inl (by simpa [Value.ownBlock] using h)
            · exact .inr (by omega)
          clear hown1 hgrow1 hat1 hlt1 hown
          obtain ⟨wo, hwo⟩ : ∃ wo : World, wo = wr := ⟨_, rfl⟩
          subst hwo
          go_loopg [6] (l.length - k) (fun gk j wi => ∃ t : Nat, k ≤ t ∧ t ≤ l.length ∧ gk = t - k ∧ j = .int .i64 t ∧ Shift w1 wi base g2 cap2 l t)
          case atStart => exact ⟨l.length, hk, Nat.le_refl _, rfl, by go_num, HS1.out⟩
          case round =>
            clear HS1
            obtain ⟨t, hkt, htl, rfl, rfl, hsh⟩ := hrel
            by_cases hgt : k < t
            · exact absurd hgt (by omega)
            · have hte : t = k := by omega
              subst hte
              obtain ⟨hc2, hf2⟩ := shift_cell hsh (t := t) htl
              have HE : Hid ((wr.setCell ⟨g2, t, none⟩ (.int .i64 n)).ownsRow base 3 1 (.slice (some ⟨g2, 0, none⟩) (l.length + 1) cap2) (l.length + 1) (ints (l.take t ++ (n : Int) :: l.drop t)) ∧ w1.grownBy (wr.setCell ⟨g2, t, none⟩ (.int .i64 n)) (some g2)) := shift_end n hsh htl
              have hcl : (t : Int) < ((l.length + 1 : Nat) : Int) := by omega
              clear hsh
              go_wp2
              go_ret
              refine ⟨_, rfl, ?_⟩
              rw [HI.out]
              refine ⟨by rw [insL_len l n t htl]; exact HE.out.1, grown_fresh HG.out HE.out.2 ?_, ?_⟩
              · rcases HAT.out with h | h
                · exact .inl (by simp [Value.ownBlock, h])
                · exact .inr h
              · rcases HAT.out with h | h
                · exact .inl (by simp [Value.ownBlock, h])
                · exact .inr ⟨g2, rfl, h⟩

set_option maxHeartbeats 1600000 in
theorem ins_none (w : World) (base n : Nat) (hb : base ≤ w.heap.size) :
    Calls Try.prog 28 #[.slice none 0 0, .int .i64 n] w fun e w' => ∃ v', e = .returned v' ∧ Step base w w' (.slice none 0 0) v' (insL [] n) := by
  obtain ⟨i0, hi, hz0, hz1, hz2⟩ := info_parts Try.info3
  go_enter Try.func28, Try.ntmps28
  go_wp2
  refine wp_loop_rounds 1 ?_
  rw [rounds_succ]
  go_wp2_with (first
    | (at_builtin; refine wpList_append_lies _ rfl _ _ 32 rfl base 3 i0 (.int .i64 0) 1 8 Try.underlying32 hi hz0 hz1 hz2 rfl (by omega) (.slice none 0 0) 0 [] rfl (by exact World.ownsRow_nil _ _ _ _) ⟨w.heap.size, 0, none⟩ 1 1 [.int .i64 0] rfl rfl (by exact cell_one_new w _ _) (by intro u hu; simp at hu; subst hu; rfl) (by omega) (by unfold maxLen; omega) (by omega) (by simp; omega) (w.heap.size + 1) (by simp) ?_; intro g2 cap2 w1 hown1 hgrow1 hat1 hlt1))
  have HI : Hid (insL [] (n : Int) = [(n : Int)]) := by show insL [] (n : Int) = _; simp [insL, lowK]
  have hc2 : w1.cell? ⟨g2, 0, none⟩ = some (.int .i64 0) := by rw [hown1.cellAt 0 (by omega)]; rfl
  have hf2 : w1.frozen? ⟨g2, 0, none⟩ = false := hown1.frozenAt 0
  have hst := hown1.stored 0 (.int .i64 n)
  have HS : Hid (Step base w (w1.setCell ⟨g2, 0, none⟩ (.int .i64 n)) (.slice none 0 0) (.slice (some ⟨g2, 0, none⟩) 1 cap2) [(n : Int)]) := by
    have hge : w.heap.size ≤ g2 := by
      rcases hat1 with h | h
      · simp [Value.ownBlock] at h
      · omega
    refine ⟨by simpa [ints] using hst.1, grown_fresh ((World.grownBy_alloc w _ _).trans hgrow1) hst.2 (.inr hge), .inr ⟨g2, rfl, hge⟩⟩
  clear hown1 hgrow1 hat1 hlt1 hst
  refine wp_loop_rounds 1 ?_
  rw [rounds_succ]
  go_wp2
  go_ret
  exact ⟨_, rfl, by rw [HI.out]; exact HS.out⟩

theorem ins28 (w : World) (base : Nat) (v : Value) (l : List Int) (n : Nat) (hown : w.ownsRow base 3 1 v l.length (ints l)) (hl : l.length ≤ 4194304) (hb : base ≤ w.heap.size) :
    Calls Try.prog 28 #[v, .int .i64 n] w fun e w' => ∃ v', e = .returned v' ∧ Step base w w' v v' (insL l n) := by
  rcases hown.2 with ⟨h1, h2⟩ | ⟨g, cap, cur, h1, _⟩
  · have hnil : l = [] := List.eq_nil_of_length_eq_zero h2
    subst hnil; subst h1
    exact ins_none w base n hb
  · subst h1
    exact ins_some w base g cap l n hown hl hb
end Go.Proofs.Qxb6627205a
