import Derived.Test.Qxb6627205aTot
namespace Go.Proofs.Qxb6627205a
open Go.RowKit Go.Maps

attribute [local go_sem ↓] Go.wp_at_zero Go.wp_at_succ

/-- A rule list in memory, at offset po of block pb. -/
def LM (w : World) (pb po : Nat) (rs : List Rule) : Prop :=
  ∃ (A xa3 xa4 xa5 xa6 ya3 ya4 ya5 ya6 : Option Addr) (C x0 x1 x2 xn3 xc3 xn4 xc4 xn5 xc5 xn6 xc6 y0 y1 y2 yn3 yc3 yn4 yc4 yn5 yc5 yn6 yc6 : Nat), w.cell? ⟨pb, po, none⟩ = some (.slice A rs.length C) ∧ w.cell? ⟨pb, po + 1, none⟩ = some (.map (some x0)) ∧ w.cell? ⟨pb, po + 2, none⟩ = some (.map (some x1)) ∧ w.cell? ⟨pb, po + 3, none⟩ = some (.map (some x2)) ∧ w.cell? ⟨pb, po + 4, none⟩ = some (.slice xa3 xn3 xc3) ∧ w.cell? ⟨pb, po + 5, none⟩ = some (.slice xa4 xn4 xc4) ∧ w.cell? ⟨pb, po + 6, none⟩ = some (.slice xa5 xn5 xc5) ∧ w.cell? ⟨pb, po + 7, none⟩ = some (.slice xa6 xn6 xc6) ∧ w.cell? ⟨pb, po + 8, none⟩ = some (.map (some y0)) ∧ w.cell? ⟨pb, po + 9, none⟩ = some (.map (some y1)) ∧ w.cell? ⟨pb, po + 10, none⟩ = some (.map (some y2)) ∧ w.cell? ⟨pb, po + 11, none⟩ = some (.slice ya3 yn3 yc3) ∧ w.cell? ⟨pb, po + 12, none⟩ = some (.slice ya4 yn4 yc4) ∧ w.cell? ⟨pb, po + 13, none⟩ = some (.slice ya5 yn5 yc5) ∧ w.cell? ⟨pb, po + 14, none⟩ = some (.slice ya6 yn6 yc6) ∧ Rr w A rs ∧ DoneC (fun r => r.pr) rs w x0 x1 x2 (.slice xa3 xn3 xc3) (.slice xa4 xn4 xc4) (.slice xa5 xn5 xc5) (.slice xa6 xn6 xc6) ∧ DoneC (fun r => r.pa) rs w y0 y1 y2 (.slice ya3 yn3 yc3) (.slice ya4 yn4 yc4) (.slice ya5 yn5 yc5) (.slice ya6 yn6 yc6)

/-- Buckets that find every rule that matches. -/
def Cand (w : World) (v : Value) (rs : List Rule) (vs : List ByteArray) (m : ByteArray) : Prop :=
  ∃ (g cap : Nat) (V : Nat → List UInt8 → Value) (L : Nat → List UInt8 → List Int) (ns : List (Nat × List UInt8)) (base n b0 : Nat) (sel : Rule → List Pat), v = .slice (some ⟨g, 0, none⟩) ns.length cap ∧ ns.length ≤ maxLen ∧ (∀ (j : Nat) x, ns[j]? = some x → w.cell? ⟨g, j, none⟩ = some (V x.1 x.2)) ∧ Ix w b0 base n V L ∧ Inv L sel rs rs.length ∧ Snd ns ∧ (∀ (i : Nat) r, rs[i]? = some r → ruleOK vs m r = true → ∃ x ∈ ns, (i : Int) ∈ L x.1 x.2)

theorem bk_start (w : World) (g : Nat) (h : w.heap[g]? = some (.cells #[.slice none 0 0, .slice none 0 0, .slice none 0 0, .slice none 0 0, .slice none 0 0, .slice none 0 0, .slice none 0 0, .slice none 0 0] 74)) : Bk w g w (.slice (some ⟨g, 0, none⟩) 0 8) [] :=
  ⟨g, 8, _, 74, rfl, .inl rfl, h, by simp, by unfold maxLen; omega, rfl, rfl, World.grownBy.refl _ _⟩

theorem cand_of {w w0 w2 w3 : World} {g0 b0 base n : Nat} {v : Value} {V : Nat → List UInt8 → Value} {L : Nat → List UInt8 → List Int} {ns : List (Nat × List UInt8)} {sel : Rule → List Pat} {rs : List Rule} {vs : List ByteArray} {m : ByteArray} (hB : Bk w0 g0 w2 v (vals V ns)) (hmv : ∀ (g j : Nat) u, (g = g0 ∨ w0.heap.size ≤ g) → w2.cell? ⟨g, j, none⟩ = some u → w3.cell? ⟨g, j, none⟩ = some u) (hS : Snd ns) (hix : Ix w b0 base n V L) (hb : Below w.heap.size w w3) (hinv : Inv L sel rs rs.length) (hc : ∀ (i : Nat) r, rs[i]? = some r → ruleOK vs m r = true → ∃ x ∈ ns, (i : Int) ∈ L x.1 x.2) : Cand w3 v rs vs m := by
  obtain ⟨g, cap, h1, h0, h2, h3⟩ := hB.cells
  refine ⟨g, cap, V, L, ns, base, n, b0, sel, by simpa [vals] using h1, by simpa [vals] using h2, fun j x hx => hmv g j _ h0 (h3 j _ (by simp [vals, hx])), hix.kept (grown_of_below hb), hinv, hS, hc⟩
theorem Cand.below {w w' : World} {v : Value} {rs : List Rule} {vs : List ByteArray} {m : ByteArray} (h : Cand w v rs vs m) (hb : Below w.heap.size w w') : Cand w' v rs vs m := by
  obtain ⟨g, cap, V, L, ns, base, n, b0, sel, h1, h2, h3, h4, h5⟩ := h
  exact ⟨g, cap, V, L, ns, base, n, b0, sel, h1, h2, fun j x hx => (hb.cell (block_lt_of_cell (h3 j x hx))).trans (h3 j x hx), h4.kept (grown_of_below hb), h5⟩
theorem total_cand (w : World) (v : Value) (rs : List Rule) (vs : List ByteArray) (m : ByteArray) (h : Cand w v rs vs m) : Calls Try.prog 31 #[v] w fun e w' => AnInt e ∧ w' = w := by
  obtain ⟨g, cap, V, L, ns, base, n, b0, sel, h1, h2, h3, h4, h5, _⟩ := h
  subst h1
  have := total31 w g cap (vals V ns) (by simpa [vals] using h2) (fun j u hu => by
    simp only [vals, List.getElem?_map, Option.map_eq_some_iff] at hu
    obtain ⟨x, hx, rfl⟩ := hu
    exact h3 j x hx) (slices_vals h4 h5 ns)
  simpa [vals] using this

/-- The best place so far. -/
def Bst (rs : List Rule) (vs : List ByteArray) (m : ByteArray) (k : Nat) : Prop := k ≤ rs.length ∧ (k = rs.length ∨ ∃ r, rs[k]? = some r ∧ ruleOK vs m r = true)
def Low (L : Nat → List UInt8 → List Int) (x : Nat × List UInt8) (rs : List Rule) (vs : List ByteArray) (m : ByteArray) (k : Nat) : Prop := ∀ (i : Nat) r, (i : Int) ∈ L x.1 x.2 → rs[i]? = some r → ruleOK vs m r = true → k ≤ i
theorem find_best {rs : List Rule} {vs : List ByteArray} {m : ByteArray} {k : Nat} (h : Bst rs vs m k) (hl : ∀ (i : Nat) r, rs[i]? = some r → ruleOK vs m r = true → k ≤ i) : (k = rs.length ∧ rs.find? (ruleOK vs m) = none) ∨ ∃ r, k < rs.length ∧ rs[k]? = some r ∧ rs.find? (ruleOK vs m) = some r := by
  rcases h.2 with e | ⟨r, hr, hok⟩
  · left
    refine ⟨e, List.find?_eq_none.2 fun r hr hok => ?_⟩
    obtain ⟨i, hi⟩ := List.getElem?_of_mem hr
    have h1 := hl i r hi hok
    have h2 := (List.getElem?_eq_some_iff.1 hi).1
    omega
  · right
    obtain ⟨hlt, e⟩ := List.getElem?_eq_some_iff.1 hr
    refine ⟨r, hlt, hr, List.find?_eq_some_iff_getElem.2 ⟨hok, k, hlt, e, fun j hj => ?_⟩⟩
    cases hj2 : ruleOK vs m rs[j] with
    | false => rfl
    | true =>
      have := hl j rs[j] (List.getElem?_eq_getElem (by omega)) hj2
      omega
/-- Among the first j places of bucket x none matches. -/
def Miss (L : Nat → List UInt8 → List Int) (x : Nat × List UInt8) (rs : List Rule) (vs : List ByteArray) (m : ByteArray) (j : Nat) : Prop := ∀ (s i : Nat) r, s < j → (L x.1 x.2)[s]? = some (i : Int) → rs[i]? = some r → ruleOK vs m r = false
theorem low_end {L : Nat → List UInt8 → List Int} {x : Nat × List UInt8} {rs : List Rule} {vs : List ByteArray} {m : ByteArray} {j k : Nat} (h : Miss L x rs vs m j) (hj : (L x.1 x.2).length ≤ j) : Low L x rs vs m k := fun i r hi hr hok => by
  obtain ⟨s, hs⟩ := List.getElem?_of_mem hi
  have := (List.getElem?_eq_some_iff.1 hs).1
  rw [h s i r (by omega) hs hr] at hok
  cases hok
theorem low_break {L : Nat → List UInt8 → List Int} {x : Nat × List UInt8} {rs : List Rule} {vs : List ByteArray} {m : ByteArray} {j k p : Nat} (h : Miss L x rs vs m j) (hsrt : (L x.1 x.2).Pairwise (· < ·)) (hp : (L x.1 x.2)[j]? = some (p : Int)) (hk : k ≤ p) : Low L x rs vs m k := fun i r hi hr hok => by
  obtain ⟨s, hs⟩ := List.getElem?_of_mem hi
  by_cases hsj : s < j
  · rw [h s i r hsj hs hr] at hok
    cases hok
  · obtain ⟨l1, e1⟩ := List.getElem?_eq_some_iff.1 hp
    obtain ⟨l2, e2⟩ := List.getElem?_eq_some_iff.1 hs
    by_cases e : s = j
    · subst e; omega
    · have := List.pairwise_iff_getElem.1 hsrt j s l1 l2 (by omega)
      omega
theorem miss_next {L : Nat → List UInt8 → List Int} {x : Nat × List UInt8} {rs : List Rule} {vs : List ByteArray} {m : ByteArray} {j p : Nat} {r : Rule} (h : Miss L x rs vs m j) (hp : (L x.1 x.2)[j]? = some (p : Int)) (hr : rs[p]? = some r) (hok : ruleOK vs m r = false) : Miss L x rs vs m (j + 1) := fun s i q hs hi hq => by
  by_cases e : s = j
  · subst e
    rw [hp] at hi
    have e2 : p = i := by have := Option.some.inj hi; omega
    subst e2
    rw [hr] at hq
    cases hq
    exact hok
  · exact h s i q (by omega) hi hq
theorem low_all {L : Nat → List UInt8 → List Int} {ns : List (Nat × List UInt8)} {x : Nat × List UInt8} {rs : List Rule} {vs : List ByteArray} {m : ByteArray} {t k k' : Nat} (h : ∀ (s : Nat) y, s < t → ns[s]? = some y → Low L y rs vs m k) (hx : ns[t]? = some x) (hl : Low L x rs vs m k') (hk : k' ≤ k) : ∀ (s : Nat) y, s < t + 1 → ns[s]? = some y → Low L y rs vs m k' := fun s y hs hy => by
  by_cases e : s = t
  · subst e; rw [hx] at hy; cases hy; exact hl
  · exact fun i r h1 h2 h3 => Nat.le_trans hk (h s y (by omega) hy i r h1 h2 h3)
def NatV (v : Value) (k : Nat) : Prop := v = .int .i64 k

/-- What first answers. -/
def Fst (w : World) (rs : List Rule) (vs : List ByteArray) (m : ByteArray) (e : Ending) : Prop :=
  (rs.find? (ruleOK vs m) = none ∧ e = .returned (.pointer none)) ∨ ∃ r b o, rs.find? (ruleOK vs m) = some r ∧ e = .returned (.pointer (some ⟨b, o, none⟩)) ∧ R1 w b o r

set_option maxRecDepth 100000 in
set_option maxHeartbeats 4000000 in
theorem first21 (w : World) (pb po : Nat) (rs : List Rule) (hM : LM w pb po rs) (a' : Option Addr) (vs : List ByteArray) (c' : Nat) (hS : Ss w a' vs) (hl : vs.length ≤ 1048576) (m : ByteArray) (hm : m.size ≤ maxLen) :
    Calls Try.prog 21 #[.pointer (some ⟨pb, po, none⟩), .slice a' vs.length c', .string m] w fun e w' => Fst w' rs vs m e ∧ Below w.heap.size w w' := by
  obtain ⟨A, xa3, xa4, xa5, xa6, ya3, ya4, ya5, ya6, C, x0, x1, x2, xn3, xc3, xn4, xc4, xn5, xc5, xn6, xc6, y0, y1, y2, yn3, yc3, yn4, yc4, yn5, yc5, yn6, yc6, h0, h1, h2, h3, h4, h5, h6, h7, h8, h9, h10, h11, h12, h13, h14, hRr, hD1, hD2⟩ := hM
  have HSs : Hid (Ss w a' vs) := hS
  have HRR : Hid (Rr w A rs ∧ w.cell? ⟨pb, po, none⟩ = some (.slice A rs.length C)) := ⟨hRr, h0⟩
  have HK1 : Hid (∀ w1, Below w.heap.size w w1 → w.heap.size < w1.heap.size → w1.heap[w.heap.size]? = some (.cells #[.slice none 0 0, .slice none 0 0, .slice none 0 0, .slice none 0 0, .slice none 0 0, .slice none 0 0, .slice none 0 0, .slice none 0 0] 74) → Calls Try.prog 30 #[.pointer (some ⟨pb, po + 1, none⟩), .slice (some ⟨w.heap.size, 0, none⟩) 0 8, .slice a' vs.length c'] w1 fun e w' => ∃ v' base n V L ns, e = .returned v' ∧ Bk w1 w.heap.size w' v' (vals V ns) ∧ Snd ns ∧ Covers L (fun r => r.pr) rs vs ns ∧ Ix w x0 base n V L ∧ Inv L (fun r => r.pr) rs rs.length) := fun w1 hb hlt hz =>
    lookup30 w w1 pb (po + 1) w.heap.size x0 x1 x2 xa3 xa4 xa5 xa6 xn3 xc3 xn4 xc4 xn5 xc5 xn6 xc6 (fun r => r.pr) rs hD1 h1 h2 h3 h4 h5 h6 h7 hb (Nat.le_refl _) _ (bk_start w1 _ hz) a' vs c' hl (fun w' hg => HSs.out.below (hb.grown hg hb.size (fun k hk => by have := Option.some.inj hk; omega)))
  have HK2 : Hid (∀ w1 bm, Below w.heap.size w w1 → w1.heap[w.heap.size + 1]? = some (.cells #[.slice none 0 0, .slice none 0 0, .slice none 0 0, .slice none 0 0, .slice none 0 0, .slice none 0 0, .slice none 0 0, .slice none 0 0] 74) → bm ≠ w.heap.size + 1 → w1.cell? ⟨bm, 0, none⟩ = some (.string m) → Calls Try.prog 30 #[.pointer (some ⟨pb, po + 8, none⟩), .slice (some ⟨w.heap.size + 1, 0, none⟩) 0 8, .slice (some ⟨bm, 0, none⟩) 1 1] w1 fun e w' => ∃ v' base n V L ns, e = .returned v' ∧ Bk w1 (w.heap.size + 1) w' v' (vals V ns) ∧ Snd ns ∧ Covers L (fun r => r.pa) rs [m] ns ∧ Ix w y0 base n V L ∧ Inv L (fun r => r.pa) rs rs.length) := fun w1 bm hb hz hne hcm =>
    lookup30 w w1 pb (po + 8) (w.heap.size + 1) y0 y1 y2 ya3 ya4 ya5 ya6 yn3 yc3 yn4 yc4 yn5 yc5 yn6 yc6 (fun r => r.pa) rs hD2 h8 h9 h10 h11 h12 h13 h14 hb (by omega) _ (bk_start w1 _ hz) (some ⟨bm, 0, none⟩) [m] 1 (by simp) (fun w' hg => .inr ⟨bm, 0, rfl, fun k s hk => by
      cases k with
      | zero =>
        simp at hk
        subst hk
        exact ⟨(hg.cell_far _ (block_lt_of_cell hcm) (fun e => hne (Option.some.inj e))).trans hcm, hm⟩
      | succ k => simp at hk⟩)
  clear h0 h1 h2 h3 h4 h5 h6 h7 h8 h9 h10 h11 h12 h13 h14 hRr hD1 hD2 hS
  go_enter Try.func21, Try.ntmps21
  go_wp2_with fail
  have HB1 : Hid (Below w.heap.size w ((w.alloc (.cells #[.slice none 0 0, .slice none 0 0, .slice none 0 0, .slice none 0 0, .slice none 0 0, .slice none 0 0, .slice none 0 0, .slice none 0 0] 74)).alloc (.cells #[.slice none 0 0, .slice none 0 0, .slice none 0 0, .slice none 0 0, .slice none 0 0, .slice none 0 0, .slice none 0 0, .slice none 0 0] 74))) := by
    have h1 : Below w.heap.size w (w.alloc (.cells #[.slice none 0 0, .slice none 0 0, .slice none 0 0, .slice none 0 0, .slice none 0 0, .slice none 0 0, .slice none 0 0, .slice none 0 0] 74)) := (Below.refl _ _).alloc (Nat.le_refl _) _
    exact h1.alloc h1.size _
  have HZ1 : Hid (((w.alloc (.cells #[.slice none 0 0, .slice none 0 0, .slice none 0 0, .slice none 0 0, .slice none 0 0, .slice none 0 0, .slice none 0 0, .slice none 0 0] 74)).alloc (.cells #[.slice none 0 0, .slice none 0 0, .slice none 0 0, .slice none 0 0, .slice none 0 0, .slice none 0 0, .slice none 0 0, .slice none 0 0] 74)).heap[w.heap.size]? = some (.cells #[.slice none 0 0, .slice none 0 0, .slice none 0 0, .slice none 0 0, .slice none 0 0, .slice none 0 0, .slice none 0 0, .slice none 0 0] 74) ∧ ((w.alloc (.cells #[.slice none 0 0, .slice none 0 0, .slice none 0 0, .slice none 0 0, .slice none 0 0, .slice none 0 0, .slice none 0 0, .slice none 0 0] 74)).alloc (.cells #[.slice none 0 0, .slice none 0 0, .slice none 0 0, .slice none 0 0, .slice none 0 0, .slice none 0 0, .slice none 0 0, .slice none 0 0] 74)).heap[w.heap.size + 1]? = some (.cells #[.slice none 0 0, .slice none 0 0, .slice none 0 0, .slice none 0 0, .slice none 0 0, .slice none 0 0, .slice none 0 0, .slice none 0 0] 74) ∧ ((w.alloc (.cells #[.slice none 0 0, .slice none 0 0, .slice none 0 0, .slice none 0 0, .slice none 0 0, .slice none 0 0, .slice none 0 0, .slice none 0 0] 74)).alloc (.cells #[.slice none 0 0, .slice none 0 0, .slice none 0 0, .slice none 0 0, .slice none 0 0, .slice none 0 0, .slice none 0 0, .slice none 0 0] 74)).heap.size = w.heap.size + 1 + 1) := by
    refine ⟨(Below.heap_alloc _ _ _ (by simp)).trans (new_block _ _), ?_, by simp⟩
    have := new_block (w.alloc (.cells #[.slice none 0 0, .slice none 0 0, .slice none 0 0, .slice none 0 0, .slice none 0 0, .slice none 0 0, .slice none 0 0, .slice none 0 0] 74)) (.cells #[.slice none 0 0, .slice none 0 0, .slice none 0 0, .slice none 0 0, .slice none 0 0, .slice none 0 0, .slice none 0 0, .slice none 0 0] 74)
    rw [World.size_alloc] at this
    exact this
  generalize (w.alloc (.cells #[.slice none 0 0, .slice none 0 0, .slice none 0 0, .slice none 0 0, .slice none 0 0, .slice none 0 0, .slice none 0 0, .slice none 0 0] 74)).alloc (.cells #[.slice none 0 0, .slice none 0 0, .slice none 0 0, .slice none 0 0, .slice none 0 0, .slice none 0 0, .slice none 0 0, .slice none 0 0] 74) = W1 at *
  obtain ⟨N, hN⟩ : ∃ N, N = w.heap.size := ⟨_, rfl⟩
  have HN : Hid (N = w.heap.size) := hN
  rw [← hN] at HB1 HZ1 HK1 HK2 ⊢
  clear hN
  go_region_held3 (fun _ => True) (trivial)
    (first | (go_at_call 30; refine (HK1.out _ HB1.out.drew (by have := HZ1.out.2.2; show N < W1.heap.size; omega) HZ1.out.1).mono ?_; rintro e w2 ⟨v1, base1, n1, V1, L1, ns1, rfl, hbk1, hsn1, hcv1, hix1, hin1⟩; have HP1 : Hid (Bk W1.drew N w2 v1 (vals V1 ns1) ∧ Snd ns1 ∧ Covers L1 (fun r => r.pr) rs vs ns1 ∧ Ix w x0 base1 n1 V1 L1 ∧ Inv L1 (fun r => r.pr) rs rs.length) := ⟨hbk1, hsn1, hcv1, hix1, hin1⟩; clear hbk1 hsn1 hcv1 hix1 hin1))
  have HGR2 : Hid (W1.drew.grownBy w2 (some N)) := HP1.out.1.grown
  have HB2 : Hid (Below N w w2) := HB1.out.drew.grown HGR2.out (by rw [HN.out]; exact HB1.out.size) (fun k hk => by have := Option.some.inj hk; omega)
  have HZ2 : Hid (w2.heap[N + 1]? = some (.cells #[.slice none 0 0, .slice none 0 0, .slice none 0 0, .slice none 0 0, .slice none 0 0, .slice none 0 0, .slice none 0 0, .slice none 0 0] 74) ∧ N + 1 < w2.heap.size) := by
    have h1 := HZ1.out.2.2
    have h2 := HGR2.out.size
    have h3 : W1.drew.heap.size = N + 1 + 1 := h1
    exact ⟨(HGR2.out.block (N + 1) (by omega) (by simp)).trans HZ1.out.2.1, by omega⟩
  go_wp2_with fail
  go_region_held3 (fun _ => True) (trivial)
    (first | (go_at_call 30; refine (HK2.out _ w2.heap.size (HB2.out.drew.alloc (by have := HZ2.out.2; show N ≤ w2.heap.size; omega) _) ((Below.heap_alloc _ _ _ (by have := HZ2.out.2; exact this)).trans HZ2.out.1) (by have := HZ2.out.2; omega) (by exact cell_one_new w2.drew _ _ 0 _ rfl)).mono ?_; rintro e w3 ⟨v2, base2, n2, V2, L2, ns2, rfl, hbk2, hsn2, hcv2, hix2, hin2⟩; have HP2 : Hid (Bk (w2.drew.alloc (.cells #[.string m] 9)) (N + 1) w3 v2 (vals V2 ns2) ∧ Snd ns2 ∧ Covers L2 (fun r => r.pa) rs [m] ns2 ∧ Ix w y0 base2 n2 V2 L2 ∧ Inv L2 (fun r => r.pa) rs rs.length) := ⟨hbk2, hsn2, hcv2, hix2, hin2⟩; clear hbk2 hsn2 hcv2 hix2 hin2))
  have HGR3 : Hid ((w2.drew.alloc (.cells #[.string m] 9)).grownBy w3 (some (N + 1))) := HP2.out.1.grown
  have HB3 : Hid (Below N w w3) := (HB2.out.drew.alloc (by have := HZ2.out.2; show N ≤ w2.heap.size; omega) _).grown HGR3.out (by have := HZ2.out.2; simp; omega) (fun k hk => by have := Option.some.inj hk; omega)
  have HC1 : Hid (Cand w3 v1 rs vs m) := cand_of HP1.out.1 (fun g j u hg hu => by
      have hlt := block_lt_of_cell hu
      have h3 : W1.drew.heap.size = N + 1 + 1 := HZ1.out.2.2
      rw [h3] at hg
      have hu' : (w2.drew.alloc (.cells #[.string m] 9)).cell? ⟨g, j, none⟩ = some u := (World.cell?_alloc_lt _ _ _ (by exact hlt)).trans hu
      exact (HGR3.out.cell_far ⟨g, j, none⟩ (block_lt_of_cell hu') (by intro e; have e1 : g = N + 1 := Option.some.inj e; rcases hg with hg | hg <;> omega)).trans hu') HP1.out.2.1 HP1.out.2.2.2.1 (by rw [← HN.out]; exact HB3.out) HP1.out.2.2.2.2 (fun i r hr hok => HP1.out.2.2.1 i r hr (by rw [ruleOK, Bool.and_eq_true] at hok; exact hok.1))
  have HC2 : Hid (Cand w3 v2 rs vs m) := cand_of HP2.out.1 (fun g j u hg hu => hu) HP2.out.2.1 HP2.out.2.2.2.1 (by rw [← HN.out]; exact HB3.out) HP2.out.2.2.2.2 (fun i r hr hok => HP2.out.2.2.1 i r hr (by rw [ruleOK, Bool.and_eq_true] at hok; exact hok.2))
  clear HP1 HP2 HGR2 HGR3 HZ2 HZ1 HK1 HK2
  go_wp2_with fail
  refine (total_cand _ _ _ _ _ HC2.out).mono ?_
  rintro e w4 ⟨⟨t2, rfl⟩, rfl⟩
  go_wp2_with fail
  refine (total_cand _ _ _ _ _ HC1.out).mono ?_
  rintro e w5 ⟨⟨t1, rfl⟩, rfl⟩
  go_upto_if 35 with fail
  go_cut [11] from 36 to 36 (fun v wx => wx = w5 ∧ Hid (Cand wx v rs vs m))
  case first =>
    by_cases ht : t2 < t1
    · go_wp2
      go_meet
      case rel => exact ⟨rfl, HC2.out⟩
    · go_wp2
      go_meet
      case rel => exact ⟨rfl, HC1.out⟩
  case rest =>
    obtain ⟨rfl, HCA⟩ := hcut
    clear HC1 HC2
    obtain ⟨g, cap, V, L, ns, base, n, b0, sel, rfl, hmx, hcells, hix, hinv, hsn, hcov⟩ := HCA.out
    have HCE : Hid (∀ (j : Nat) x, ns[j]? = some x → wc.cell? ⟨g, j, none⟩ = some (V x.1 x.2)) := hcells
    have HIX : Hid (Ix wc b0 base n V L) := hix
    have HINV : Hid (Inv L sel rs rs.length) := hinv
    have HSN : Hid (Snd ns) := hsn
    have HCOV : Hid (∀ (i : Nat) r, rs[i]? = some r → ruleOK vs m r = true → ∃ x ∈ ns, (i : Int) ∈ L x.1 x.2) := hcov
    have HB5 : Hid (Below w.heap.size w wc) := by rw [← HN.out]; exact HB3.out
    have HRC : Hid (Rr wc A rs ∧ wc.cell? ⟨pb, po, none⟩ = some (.slice A rs.length C) ∧ Ss wc a' vs) := ⟨HRR.out.1.below HB5.out, (HB5.out.cell (block_lt_of_cell HRR.out.2)).trans HRR.out.2, HSs.out.below HB5.out⟩
    have hcA := HRC.out.2.1
    unfold maxLen at hmx
    clear hcells hix hinv hsn hcov HCA HB3 HB2 HB1
    go_wp2
    clear hcA
    go_loopg [12, 44] (ns.length + 1) (fun gk bv i wr => ∃ t k : Nat, t ≤ ns.length ∧ gk = ns.length + 1 - t ∧ i = .int .i64 t ∧ bv = .int .i64 k ∧ Hid (Bst rs vs m k) ∧ Hid (∀ (s : Nat) x, s < t → ns[s]? = some x → Low L x rs vs m k) ∧ Hid (Below wc.heap.size wc wr))
    case atStart => exact ⟨0, rs.length, Nat.zero_le _, rfl, rfl, rfl, ⟨Nat.le_refl _, .inl rfl⟩, fun s x h => absurd h (Nat.not_lt_zero _), Below.refl _ _⟩
    case round =>
      obtain ⟨t, k, ht, rfl, rfl, rfl, HBS, HLW, HBW⟩ := hrel
      have hk := HBS.out.1
      have hcW : wr.cell? ⟨pb, po, none⟩ = some (.slice A rs.length C) := (HBW.out.cell (block_lt_of_cell HRC.out.2.1)).trans HRC.out.2.1
      by_cases htl : t < ns.length
      · obtain ⟨x, hx⟩ : ∃ x, ns[t]? = some x := ⟨ns[t], List.getElem?_eq_getElem htl⟩
        obtain ⟨BA, BC, hV⟩ := own_slice (HIX.out.rows.own x.1 x.2)
        have hc : wr.cell? ⟨g, t, none⟩ = some (.slice BA (L x.1 x.2).length BC) := by rw [← hV]; exact (HBW.out.cell (block_lt_of_cell (HCE.out t x hx))).trans (HCE.out t x hx)
        have HVV : Hid (V x.1 x.2 = .slice BA (L x.1 x.2).length BC) := hV
        have HX : Hid (ns[t]? = some x) := hx
        have htl' : (t : Int) < (ns.length : Int) := by omega
        have hlx := HINV.out.len x.1 x.2
        clear hx hV
        go_wp2_with fail
        obtain ⟨wo, hwo⟩ : ∃ wo : World, wo = wr := ⟨_, rfl⟩
        subst hwo
        clear hc hcW
        go_loopg [12, 50] ((L x.1 x.2).length + 1) (fun gk bv i wi => ∃ j : Nat, j ≤ (L x.1 x.2).length ∧ gk = (L x.1 x.2).length + 1 - j ∧ i = .int .i64 j ∧ bv = .int .i64 k ∧ Hid (Miss L x rs vs m j) ∧ Hid (Below wc.heap.size wc wi))
        case atStart => exact ⟨0, Nat.zero_le _, rfl, rfl, rfl, fun s i r h => absurd h (Nat.not_lt_zero _), HBW.out⟩
        case round =>
          obtain ⟨j, hj, rfl, rfl, rfl, HMI, HBI⟩ := hrel
          have hcW : wr.cell? ⟨pb, po, none⟩ = some (.slice A rs.length C) := (HBI.out.cell (block_lt_of_cell HRC.out.2.1)).trans HRC.out.2.1
          by_cases hjl : j < (L x.1 x.2).length
          · have hown := (HIX.out.kept (grown_of_below HBI.out)).rows.own x.1 x.2
            rw [HVV.out] at hown
            obtain ⟨g3, hA, hc⟩ := own_cell hown hjl
            subst hA
            obtain ⟨p, hp⟩ : ∃ p : Nat, (L x.1 x.2).getD j 0 = (p : Int) := ⟨((L x.1 x.2).getD j 0).toNat, by
              have := (HINV.out.rng x.1 x.2 _ (List.mem_of_getElem? (getD_some hjl))).1
              omega⟩
            have HPJ : Hid ((L x.1 x.2)[j]? = some (p : Int)) := by
              have := getD_some hjl
              rw [hp] at this
              exact this
            rw [hp] at hc
            have hpl : p < rs.length := by
              have h1 := HSN.out x (List.mem_of_getElem? HX.out)
              have := ((HINV.out.rng x.1 x.2 _ (List.mem_of_getElem? HPJ.out)).2.2 h1.1 h1.2).2
              omega
            have hjl' : (j : Int) < ((L x.1 x.2).length : Int) := by omega
            clear hown hp
            by_cases hkp : k ≤ p
            · have hkp' : (k : Int) ≤ (p : Int) := by omega
              go_wp2
              go_roundg (ns.length + 1 - (t + 1))
              case rel => exact ⟨t + 1, k, by omega, rfl, by go_num, rfl, HBS.out, low_all HLW.out HX.out (low_break HMI.out (HINV.out.srt _ _) HPJ.out hkp) (Nat.le_refl _), HBI.out⟩
              case measure => omega
            · have hkp' : (p : Int) < (k : Int) := by omega
              have hpl' : (p : Int) < (rs.length : Int) := by omega
              rcases HRC.out.1 with h | ⟨b, o, hA2, hRw⟩
              · simp [h] at hpl
              subst hA2
              obtain ⟨r, hr⟩ : ∃ r, rs[p]? = some r := ⟨rs[p], List.getElem?_eq_getElem hpl⟩
              have HR1 : Hid (R1 wr b (o + p * 4) r) := (hRw p r hr).below HBI.out
              have HRp : Hid (rs[p]? = some r) := hr
              have HSW : Hid (Ss wr a' vs) := HRC.out.2.2.below HBI.out
              clear hRw hr
              cases hres : ruleOK vs m r with
              | true =>
                have HRES : Hid (ruleOK vs m r = true) := hres
                clear hres
                go_wp2_with fail
                refine (matches32 _ b (o + p * 4) r a' c' vs m HR1.out (by unfold maxLen; omega) hm HSW.out).mono ?_
                rw [HRES.out]
                rintro e w7 ⟨rfl, hb7⟩
                have HB7 : Hid (Below wc.heap.size wc w7) := HBI.out.trans (hb7.mono HBI.out.size)
                clear hb7 hc hcW
                go_wp2
                go_roundg (ns.length + 1 - (t + 1))
                case rel => exact ⟨t + 1, p, by omega, rfl, by go_num, rfl, ⟨by omega, .inr ⟨r, HRp.out, HRES.out⟩⟩, low_all HLW.out HX.out (low_break HMI.out (HINV.out.srt _ _) HPJ.out (Nat.le_refl _)) (by omega), HB7.out⟩
                case measure => omega
              | false =>
                have HRES : Hid (ruleOK vs m r = false) := hres
                clear hres
                go_wp2_with fail
                refine (matches32 _ b (o + p * 4) r a' c' vs m HR1.out (by unfold maxLen; omega) hm HSW.out).mono ?_
                rw [HRES.out]
                rintro e w7 ⟨rfl, hb7⟩
                have HB7 : Hid (Below wc.heap.size wc w7) := HBI.out.trans (hb7.mono HBI.out.size)
                clear hb7 hc hcW
                go_wp2
                go_roundg ((L x.1 x.2).length + 1 - (j + 1))
                case rel => exact ⟨j + 1, by omega, rfl, by go_num, rfl, miss_next HMI.out HPJ.out HRp.out HRES.out, HB7.out⟩
                case measure => omega
          · clear hcW
            go_wp2
            go_roundg (ns.length + 1 - (t + 1))
            case rel => exact ⟨t + 1, k, by omega, rfl, by go_num, rfl, HBS.out, low_all HLW.out HX.out (low_end HMI.out (by omega)) (Nat.le_refl _), HBI.out⟩
            case measure => omega
      · have HALL : Hid (∀ (i : Nat) r, rs[i]? = some r → ruleOK vs m r = true → k ≤ i) := fun i r hr hok => by
          obtain ⟨x, hx, hix⟩ := HCOV.out i r hr hok
          obtain ⟨s, hs⟩ := List.getElem?_of_mem hx
          have := (List.getElem?_eq_some_iff.1 hs).1
          exact HLW.out s x (by omega) hs i r hix hr hok
        have HBE : Hid (Below w.heap.size w wr) := HB5.out.trans (HBW.out.mono HB5.out.size)
        rcases find_best HBS.out HALL.out with ⟨rfl, hf⟩ | ⟨r, hlt, hr, hf⟩
        · have HF : Hid (rs.find? (ruleOK vs m) = none) := hf
          clear hf
          go_wp2
          go_ret
          exact ⟨.inl ⟨HF.out, rfl⟩, HBE.out⟩
        · have HF : Hid (rs.find? (ruleOK vs m) = some r ∧ rs[k]? = some r) := ⟨hf, hr⟩
          have hkb : ((k : Int) == (rs.length : Int)) = false := by simp; omega
          have hkl : (k : Int) < (rs.length : Int) := by omega
          clear hf hr
          rcases HRC.out.1 with h | ⟨b, o, hA2, hRw⟩
          · simp [h] at hlt
          subst hA2
          have HR1 : Hid (R1 wr b (o + k * 4) r) := (hRw k r HF.out.2).below HBW.out
          clear hRw
          go_wp2
          go_ret
          exact ⟨.inr ⟨r, b, o + k * 4, HF.out.1, rfl, HR1.out⟩, HBE.out⟩
end Go.Proofs.Qxb6627205a
