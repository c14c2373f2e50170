import Derived.Test.Qxb6627205aIx
namespace Go.Proofs.Qxb6627205a

def pkey (p : Pat) : List UInt8 := p.text.data.toList
/-- Pattern p of the rule at place i is filed. -/
def covP (L : Nat → List UInt8 → List Int) (i : Nat) (p : Pat) : Prop :=
  (p.form = 1 → (i : Int) ∈ L 1 (pkey p) ∧ (p.text.size : Int) ∈ L 3 []) ∧
  (p.form = 2 → (i : Int) ∈ L 2 (pkey p) ∧ (p.text.size : Int) ∈ L 4 []) ∧
  (p.form = 3 → (i : Int) ∈ L 5 []) ∧
  (p.form ≠ 1 → p.form ≠ 2 → p.form ≠ 3 → (i : Int) ∈ L 0 (pkey p))
def covR (L : Nat → List UInt8 → List Int) (sel : Rule → List Pat) (i : Nat) (r : Rule) : Prop :=
  (sel r = [] → (i : Int) ∈ L 6 []) ∧ ∀ p ∈ sel r, covP L i p
def Sub (L L' : Nat → List UInt8 → List Int) : Prop := ∀ m q x, x ∈ L m q → x ∈ L' m q
theorem covP.sub {L L' : Nat → List UInt8 → List Int} {i : Nat} {p : Pat} (h : covP L i p) (hs : Sub L L') : covP L' i p :=
  ⟨fun e => ⟨hs _ _ _ (h.1 e).1, hs _ _ _ (h.1 e).2⟩, fun e => ⟨hs _ _ _ (h.2.1 e).1, hs _ _ _ (h.2.1 e).2⟩, fun e => hs _ _ _ (h.2.2.1 e), fun e1 e2 e3 => hs _ _ _ (h.2.2.2 e1 e2 e3)⟩
theorem covR.sub {L L' : Nat → List UInt8 → List Int} {sel : Rule → List Pat} {i : Nat} {r : Rule} (h : covR L sel i r) (hs : Sub L L') : covR L' sel i r :=
  ⟨fun e => hs _ _ _ (h.1 e), fun p hp => (h.2 p hp).sub hs⟩

/-- The index files the first k rules; all places are at most k. -/
structure Inv (L : Nat → List UInt8 → List Int) (sel : Rule → List Pat) (rs : List Rule) (k : Nat) : Prop where
  cov : ∀ (i : Nat) r, i < k → rs[i]? = some r → covR L sel i r
  srt : ∀ m q, (L m q).Pairwise (· < ·)
  rng : ∀ m q x, x ∈ L m q → 0 ≤ x ∧ x ≤ 1048576 ∧ (m ≠ 3 → m ≠ 4 → x ≤ k ∧ x < rs.length)

theorem inv_start (sel : Rule → List Pat) (rs : List Rule) : Inv (fun _ _ => []) sel rs 0 :=
  ⟨fun i r h => absurd h (Nat.not_lt_zero _), fun _ _ => List.Pairwise.nil, fun _ _ _ h => by simp at h⟩

theorem sorted_len {l : List Int} {N : Nat} (h : l.Pairwise (· < ·)) (h2 : ∀ x ∈ l, 0 ≤ x ∧ x ≤ N) : l.length ≤ N + 1 := by
  have key : ∀ (l : List Int) (a : Int), l.Pairwise (· < ·) → (∀ x ∈ l, a ≤ x ∧ x ≤ N) → (l.length : Int) ≤ N + 1 - a ∨ l = [] := by
    intro l
    induction l with
    | nil => intro a _ _; exact .inr rfl
    | cons x l ih =>
      intro a hp hx
      left
      rw [List.pairwise_cons] at hp
      have hxa := hx x (by simp)
      rcases ih (x + 1) hp.2 (fun y hy => ⟨by have := hp.1 y hy; omega, (hx y (by simp [hy])).2⟩) with h | h
      · simp only [List.length_cons]; omega
      · subst h; simp; omega
  rcases key l 0 h h2 with h | h
  · omega
  · subst h; simp

theorem Inv.len {L : Nat → List UInt8 → List Int} {sel : Rule → List Pat} {rs : List Rule} {k : Nat} (h : Inv L sel rs k) (m : Nat) (q : List UInt8) : (L m q).length ≤ 4194304 := by
  have := sorted_len (N := 1048576) (h.srt m q) (fun x hx => ⟨(h.rng m q x hx).1, by have := (h.rng m q x hx).2.1; omega⟩)
  omega

theorem mem_addP (l : List Int) (i : Int) : i ∈ addP l i := by
  unfold addP
  split
  · rename_i h; exact List.mem_of_getLast? h
  · simp
theorem sub_addP (l : List Int) (i x : Int) (h : x ∈ l) : x ∈ addP l i := by
  unfold addP
  split
  · exact h
  · simp [h]
theorem of_addP {l : List Int} {i x : Int} (h : x ∈ addP l i) : x ∈ l ∨ x = i := by
  unfold addP at h
  split at h
  · exact .inl h
  · simpa using h
theorem addP_ne (l : List Int) (i : Int) : addP l i ≠ [] := fun h => by have := mem_addP l i; rw [h] at this; simp at this
theorem addP_srt {l : List Int} {i : Int} (h : l.Pairwise (· < ·)) (h2 : ∀ x ∈ l, x ≤ i) : (addP l i).Pairwise (· < ·) := by
  unfold addP
  split
  · exact h
  · rename_i hl
    rw [List.pairwise_append]
    refine ⟨h, by simp, fun a ha b hb => ?_⟩
    simp at hb
    subst hb
    have hle := h2 a ha
    by_cases e : a = b
    · subst e
      exfalso
      -- a is the greatest, so it is the last
      apply hl
      obtain ⟨t, ht⟩ := List.getElem?_of_mem ha
      have htl := (List.getElem?_eq_some_iff.1 ht).1
      rw [List.getLast?_eq_getElem?]
      by_cases e2 : t = l.length - 1
      · rw [← e2]; exact ht
      · have hlt : t < l.length - 1 := by omega
        have h3 := List.pairwise_iff_getElem.1 h t (l.length - 1) htl (by omega) hlt
        have h4 := h2 l[l.length - 1] (List.getElem_mem _)
        have h5 : l[t] = a := (List.getElem?_eq_some_iff.1 ht).2
        omega
    · omega

theorem insL_split (l : List Int) (n : Int) : (∀ x ∈ l.take (lowK l n), x < n) ∧ (lowK l n < l.length → ¬ l.getD (lowK l n) 0 < n) ∧ lowK l n ≤ l.length := by
  unfold lowK
  induction l with
  | nil => simp
  | cons a l ih =>
    by_cases h : a < n
    · rw [List.takeWhile_cons_of_pos (by simpa using h)]
      simp only [List.length_cons, List.take_succ_cons, List.mem_cons]
      refine ⟨fun x hx => ?_, fun hlt => ?_, by have := ih.2.2; omega⟩
      · rcases hx with rfl | hx
        · exact h
        · exact ih.1 x hx
      · have := ih.2.1 (by omega); simpa using this
    · rw [List.takeWhile_cons_of_neg (by simpa using h)]
      simpa using h
theorem mem_insL (l : List Int) (n : Int) : n ∈ insL l n := by
  unfold insL
  split
  · rename_i h; exact List.mem_of_getElem? h
  · simp
theorem sub_insL (l : List Int) (n x : Int) (h : x ∈ l) : x ∈ insL l n := by
  unfold insL
  split
  · exact h
  · rw [← List.take_append_drop (lowK l n) l] at h
    simp only [List.mem_append, List.mem_cons] at h ⊢
    rcases h with h | h
    · exact .inl h
    · exact .inr (.inr h)
theorem of_insL {l : List Int} {n x : Int} (h : x ∈ insL l n) : x ∈ l ∨ x = n := by
  unfold insL at h
  split at h
  · exact .inl h
  · simp only [List.mem_append, List.mem_cons] at h
    rcases h with h | h | h
    · exact .inl (List.mem_of_mem_take h)
    · exact .inr h
    · exact .inl (List.mem_of_mem_drop h)
theorem insL_ne (l : List Int) (n : Int) : insL l n ≠ [] := fun h => by have := mem_insL l n; rw [h] at this; simp at this
theorem insL_srt {l : List Int} {n : Int} (h : l.Pairwise (· < ·)) : (insL l n).Pairwise (· < ·) := by
  unfold insL
  split
  · exact h
  · rename_i hne
    obtain ⟨h1, h2, h3⟩ := insL_split l n
    generalize lowK l n = k at *
    have hd : ∀ x ∈ l.drop k, n < x := by
      intro x hx
      have hlt : k < l.length := by
        by_cases e : k < l.length
        · exact e
        · rw [List.drop_eq_nil_of_le (by omega)] at hx; simp at hx
      have hk := h2 hlt
      have hk0 : l.getD k 0 = l[k] := by simp [List.getD, hlt]
      have hkn : l[k] ≠ n := fun e => hne (by rw [List.getElem?_eq_getElem hlt, e])
      rw [List.drop_eq_getElem_cons hlt] at hx
      simp only [List.mem_cons] at hx
      rcases hx with rfl | hx
      · rw [hk0] at hk; omega
      · have hp := List.Pairwise.sublist (List.drop_sublist k l) h
        rw [List.drop_eq_getElem_cons hlt, List.pairwise_cons] at hp
        have := hp.1 x hx
        rw [hk0] at hk
        omega
    rw [List.pairwise_append, List.pairwise_cons]
    refine ⟨List.Pairwise.sublist (List.take_sublist k l) h, ⟨hd, List.Pairwise.sublist (List.drop_sublist k l) h⟩, fun a ha b hb => ?_⟩
    simp only [List.mem_cons] at hb
    have ha' := h1 a ha
    rcases hb with rfl | hb
    · exact ha'
    · have := hd b hb; omega

theorem sub_upd {L : Nat → List UInt8 → List Int} {m : Nat} {q : List UInt8} {l' : List Int} (h : ∀ x ∈ L m q, x ∈ l') : Sub L (upd L m q l') := by
  intro m1 q1 x hx
  by_cases e : (m1, q1) = (m, q)
  · simp only [Prod.mk.injEq] at e
    obtain ⟨rfl, rfl⟩ := e
    rw [upd_same]; exact h x hx
  · rw [upd_other _ _ e]; exact hx
theorem inv_upd {L : Nat → List UInt8 → List Int} {sel : Rule → List Pat} {rs : List Rule} {k m : Nat} {q : List UInt8} {l' : List Int} (h : Inv L sel rs k) (h1 : ∀ x ∈ L m q, x ∈ l') (h2 : l'.Pairwise (· < ·)) (h3 : ∀ x ∈ l', x ∈ L m q ∨ (0 ≤ x ∧ x ≤ 1048576 ∧ (m ≠ 3 → m ≠ 4 → x ≤ k ∧ x < rs.length))) : Inv (upd L m q l') sel rs k := by
  refine ⟨fun i r hi hr => (h.cov i r hi hr).sub (sub_upd h1), fun m1 q1 => ?_, fun m1 q1 x hx => ?_⟩
  · by_cases e : (m1, q1) = (m, q)
    · simp only [Prod.mk.injEq] at e
      obtain ⟨rfl, rfl⟩ := e
      rw [upd_same]; exact h2
    · rw [upd_other _ _ e]; exact h.srt m1 q1
  · by_cases e : (m1, q1) = (m, q)
    · simp only [Prod.mk.injEq] at e
      obtain ⟨rfl, rfl⟩ := e
      rw [upd_same] at hx
      rcases h3 x hx with h' | h'
      · exact h.rng m1 q1 x h'
      · exact h'
    · rw [upd_other _ _ e] at hx; exact h.rng m1 q1 x hx
theorem inv_add {L : Nat → List UInt8 → List Int} {sel : Rule → List Pat} {rs : List Rule} {k : Nat} (h : Inv L sel rs k) (hk : k < rs.length) (hl : rs.length ≤ 1048576) (m : Nat) (q : List UInt8) (h3 : m ≠ 3) (h4 : m ≠ 4) : Inv (upd L m q (addP (L m q) k)) sel rs k :=
  inv_upd h (fun x hx => sub_addP _ _ _ hx) (addP_srt (h.srt m q) (fun x hx => ((h.rng m q x hx).2.2 h3 h4).1)) (fun x hx => by
    rcases of_addP hx with h' | h'
    · exact .inl h'
    · right; subst h'; exact ⟨by omega, by omega, fun _ _ => ⟨by omega, by omega⟩⟩)
theorem inv_ins {L : Nat → List UInt8 → List Int} {sel : Rule → List Pat} {rs : List Rule} {k : Nat} (h : Inv L sel rs k) (m : Nat) (hm : m = 3 ∨ m = 4) (n : Nat) (hn : n ≤ 1048576) : Inv (upd L m [] (insL (L m []) n)) sel rs k :=
  inv_upd h (fun x hx => sub_insL _ _ _ hx) (insL_srt (h.srt m [])) (fun x hx => by
    rcases of_insL hx with h' | h'
    · exact .inl h'
    · right; subst h'; exact ⟨by omega, by omega, fun h3 h4 => by omega⟩)
theorem inv_next {L : Nat → List UInt8 → List Int} {sel : Rule → List Pat} {rs : List Rule} {k : Nat} {r : Rule} (h : Inv L sel rs k) (hr : rs[k]? = some r) (hc : covR L sel k r) : Inv L sel rs (k + 1) :=
  ⟨fun i q hi hq => by
    by_cases e : i = k
    · subst e; rw [hr] at hq; cases hq; exact hc
    · exact h.cov i q (by omega) hq, h.srt, fun m q x hx => ⟨(h.rng m q x hx).1, (h.rng m q x hx).2.1, fun h3 h4 => ⟨by have := ((h.rng m q x hx).2.2 h3 h4).1; omega, ((h.rng m q x hx).2.2 h3 h4).2⟩⟩⟩
end Go.Proofs.Qxb6627205a
