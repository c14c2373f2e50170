import Derived.Test.Qxb6626875aWalkH
namespace Go.Proofs.Qxb6626875a
open Go.RowKit

theorem adv_adv (ps : List (List Int)) (a b : Nat) : adv (adv ps a) b = adv ps (a + b) := by
  induction ps generalizing a with
  | nil => rfl
  | cons p ps ih =>
    by_cases h : p.length ≤ a
    · simp only [adv]
      rw [if_pos h, if_pos (by omega), ih, show a - p.length + b = a + b - p.length by omega]
    · simp only [adv]
      rw [if_neg h]
      simp only [adv, List.length_drop, List.drop_drop]
      by_cases h2 : p.length ≤ a + b
      · rw [if_pos (by omega), if_pos h2, show b - (p.length - a) = a + b - p.length by omega]
      · rw [if_neg (by omega), if_neg h2]
theorem adv_cat (ps : List (List Int)) (n : Nat) : cat (adv ps n) = (cat ps).drop n := by
  induction ps generalizing n with
  | nil => simp [adv, cat]
  | cons p ps ih =>
    simp only [adv]
    by_cases h : p.length ≤ n
    · rw [if_pos h, ih]
      simp only [cat, List.flatten_cons]
      rw [List.drop_append, List.drop_eq_nil_of_le h, List.nil_append]
    · rw [if_neg h]
      simp only [cat, List.flatten_cons]
      rw [List.drop_append_of_le_length (by omega)]
theorem adv_tot (ps : List (List Int)) (n : Nat) : tot (adv ps n) = tot ps - n := by
  rw [← cat_length, adv_cat, List.length_drop, cat_length]
theorem adv_len (ps : List (List Int)) (n : Nat) : (adv ps n).length ≤ ps.length := by
  induction ps generalizing n with
  | nil => simp [adv]
  | cons p ps ih =>
    simp only [adv]
    split
    · have := ih (n - p.length); simp; omega
    · simp
theorem adv_lead (ps : List (List Int)) (n : Nat) : adv ps n = [] ∨ 0 < (part (adv ps n) 0).length := by
  induction ps generalizing n with
  | nil => exact .inl rfl
  | cons p ps ih =>
    simp only [adv]
    split
    · exact ih _
    · right; rw [part_cons_zero, List.length_drop]; omega
theorem adv_cut (ps : List (List Int)) (i n : Nat) (h : tot (ps.take i) ≤ n) : adv ps n = adv (ps.drop i) (n - tot (ps.take i)) := by
  induction ps generalizing i n with
  | nil => simp [adv]
  | cons p ps ih =>
    cases i with
    | zero => simp [tot]
    | succ i =>
      simp only [List.take_succ_cons, tot] at h
      simp only [List.take_succ_cons, tot, List.drop_succ_cons]
      rw [show adv (p :: ps) n = adv ps (n - p.length) by simp only [adv]; rw [if_pos (by omega)], ih i _ (by omega)]
      congr 1; omega
theorem adv_tail (ps : List (List Int)) (n k : Nat) (h1 : 1 ≤ k) (h2 : k < (adv ps n).length) : part (adv ps n) k = part ps (ps.length - (adv ps n).length + k) := by
  induction ps generalizing n with
  | nil => simp [adv] at h2
  | cons p ps ih =>
    have hl := adv_len ps (n - p.length)
    simp only [adv] at h2 ⊢
    split at h2
    · rename_i h
      rw [if_pos h, ih _ h2]
      rw [show (p :: ps).length - (adv ps (n - p.length)).length + k = (ps.length - (adv ps (n - p.length)).length + k) + 1 by simp; omega, part_cons_succ]
    · rename_i h
      rw [if_neg h]
      obtain ⟨j, rfl⟩ : ∃ j, k = j + 1 := ⟨k - 1, by omega⟩
      rw [part_cons_succ]
      simp [part]
theorem tot_drop (ps : List (List Int)) (i : Nat) : tot (ps.take i) + tot (ps.drop i) = tot ps := by
  induction ps generalizing i with
  | nil => simp [tot]
  | cons p ps ih =>
    cases i with
    | zero => simp [tot]
    | succ i => have := ih i; simp only [List.take_succ_cons, List.drop_succ_cons, tot]; omega

/-- What the rest of a law asks of the memory. -/
theorem PtIn.lt {w : World} {g : Nat} {a : Option Addr} {ps : List (List Int)} (h : PtIn w g a ps) : ps = [] ∨ g < w.heap.size := by
  rcases h with h | ⟨o, _, h⟩
  · exact .inl h
  · by_cases e : ps = []
    · exact .inl e
    · obtain ⟨A, C, hc, _⟩ := h 0 (List.length_pos_iff.2 e)
      exact .inr (block_lt_of_cell hc)
theorem AdvW.below {g N : Nat} {w w' : World} (h : AdvW g w w') (hN : N ≤ g) (hs : N ≤ w.heap.size) : Below N w w' := by
  refine ⟨h.grown.os, h.grown.tape, h.grown.output, h.grown.size, fun k hk => h.grown.block k (by omega) (fun e => ?_)⟩
  have : g = k := Option.some.inj e.symm
  omega
theorem beq11n (w : World) (a a' : Option Addr) (l : List Int) (n m c c' : Nat) (hn : l.length = n) (hm : l.length = m) (hl : n ≤ 1048576) (h1 : Bs w a l) (h2 : Bs w a' l) :
    Calls Try.prog 11 #[.slice a n c, .slice a' m c'] w fun e w' => e = .returned (.bool true) ∧ ∃ q, w' = w.drewN q := by
  subst hn; subst hm; exact beq11 w a a' l c c' hl h1 h2
theorem Bs_from {w : World} {b n : Nat} {l : List Int} (h : Bs w (some ⟨b, 0, none⟩) l) : Bs w (some ⟨b, n, none⟩) (l.drop n) := by
  rcases h with h | ⟨b', o', h1, h2⟩
  · subst h; exact .inl (by simp)
  · simp at h1
    obtain ⟨rfl, rfl⟩ := h1
    have := Bs_drop (n := n) h2
    rwa [Nat.zero_add] at this
theorem below_drewN {N : Nat} {a w : World} (h : Below N a w) (n : Nat) : Below N a (w.drewN n) := ⟨h.os, h.tape, h.output, h.size, h.block⟩
theorem Bs.past {w w' : World} {a : Option Addr} {l : List Int} {n : Nat} (h : Bs w a l) (hb : Below (w.drewN n).heap.size (w.drewN n) w') (m : Nat) : Bs (w'.drewN m) a l := Bs.below (w := w.drewN n) h (below_drewN hb m)
theorem Pt.past {w w' : World} {a : Option Addr} {ps : List (List Int)} {n : Nat} (h : Pt w a ps) (hb : Below (w.drewN n).heap.size (w.drewN n) w') (m : Nat) : Pt (w'.drewN m) a ps := Pt.below (w := w.drewN n) h (below_drewN hb m)
theorem below_past {B : Nat} {v w w' : World} {n : Nat} (h : Below B v w) (hB : B ≤ w.heap.size) (hb : Below (w.drewN n).heap.size (w.drewN n) w') (m : Nat) : Below B v (w'.drewN m) :=
  below_drewN (h.trans ((below_drewN (Below.refl B w) n).trans (hb.mono hB))) m
theorem PtIn.adv' {w w' : World} {g g' : Nat} {a : Option Addr} {ps : List (List Int)} (h : PtIn w g' a ps) (hA : AdvW g w w') (hx : ps = [] ∨ g' ≠ g) : PtIn w' g' a ps := by
  rcases hx with hx | hx
  · exact .inl hx
  · exact h.adv hA hx
theorem frozen_other {w w' : World} {g g' : Nat} {ps : List (List Int)} {a : Option Addr} (hP : PtIn w g' a ps) (hA : AdvW g w w') (hx : ps = [] ∨ g' ≠ g) (h : ps = [] ∨ ∀ o, w.frozen? ⟨g', o, none⟩ = false) : ps = [] ∨ ∀ o, w'.frozen? ⟨g', o, none⟩ = false := by
  rcases hP.lt with h1 | h1
  · exact .inl h1
  rcases hx with hx | hx
  · exact .inl hx
  rcases h with h | h
  · exact .inl h
  exact .inr fun o => (hA.grown.frozen_far _ h1 (by simpa using hx)).trans (h o)
theorem frozen_same {w w' : World} {g n : Nat} {ps : List (List Int)} (hA : AdvW g w w') (h : ps = [] ∨ ∀ o, w.frozen? ⟨g, o, none⟩ = false) : adv ps n = [] ∨ ∀ o, w'.frozen? ⟨g, o, none⟩ = false := by
  rcases h with h | h
  · subst h; exact .inl rfl
  · exact .inr fun o => (hA.frozen o).trans (h o)
theorem adv_nil_or {ps : List (List Int)} {p : Prop} (n : Nat) (h : ps = [] ∨ p) : adv ps n = [] ∨ p := by
  rcases h with h | h
  · subst h; exact .inl rfl
  · exact .inr h
theorem adv_nil_ne {ps : List (List Int)} {p q : Nat} (n : Nat) (h : ps = [] ∨ p ≠ q) : adv ps n = [] ∨ q ≠ p := by
  rcases h with h | h
  · subst h; exact .inl rfl
  · exact .inr (Ne.symm h)
end Go.Proofs.Qxb6626875a
