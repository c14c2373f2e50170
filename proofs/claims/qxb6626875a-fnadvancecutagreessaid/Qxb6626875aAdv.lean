import Derived.Test.Qxb6626875aWalkD
namespace Go.Proofs.Qxb6626875a
open Go.RowKit

/-- What Advance answers. -/
def adv : List (List Int) → Nat → List (List Int)
  | [], _ => []
  | p :: ps, n => if p.length ≤ n then adv ps (n - p.length) else p.drop n :: ps

theorem adv_end (ps : List (List Int)) (n : Nat) (h : tot ps ≤ n) : adv ps n = [] := by
  induction ps generalizing n with
  | nil => rfl
  | cons p ps ih => simp only [tot] at h; simp only [adv]; rw [if_pos (by omega)]; exact ih _ (by omega)
theorem adv_at (ps : List (List Int)) (n k : Nat) (hk : k < ps.length) (h1 : tot (ps.take k) ≤ n) (h2 : n - tot (ps.take k) < (part ps k).length) :
    adv ps n = (part ps k).drop (n - tot (ps.take k)) :: ps.drop (k + 1) := by
  induction ps generalizing n k with
  | nil => simp at hk
  | cons p ps ih =>
    cases k with
    | zero => simp [tot, part] at h2 ⊢; simp only [adv]; rw [if_neg (by omega)]
    | succ k =>
      simp only [List.take_succ_cons, tot] at h1 h2 ⊢
      simp only [part, List.getD_cons_succ] at h2 ⊢
      simp only [adv]
      rw [if_pos (by omega), ih (n - p.length) k (by simpa using hk) (by omega) (by unfold part; omega)]
      simp only [part, List.drop_succ_cons]
      congr 2; omega

theorem part_drop (ps : List (List Int)) (k j : Nat) : part (ps.drop k) j = part ps (k + j) := by simp [part, List.getD]
theorem part_cons_zero (p : List Int) (ps : List (List Int)) : part (p :: ps) 0 = p := rfl
theorem part_cons_succ (p : List Int) (ps : List (List Int)) (j : Nat) : part (p :: ps) (j + 1) = part ps j := rfl

/-- The parts ps lie in block g at a. -/
def PtIn (w : World) (g : Nat) (a : Option Addr) (ps : List (List Int)) : Prop :=
  ps = [] ∨ ∃ o, a = some ⟨g, o, none⟩ ∧ ∀ k, k < ps.length → Cl w ⟨g, o + k, none⟩ (part ps k)
theorem PtIn.pt {w : World} {g : Nat} {a : Option Addr} {ps : List (List Int)} (h : PtIn w g a ps) : Pt w a ps := by
  rcases h with h | ⟨o, h1, h2⟩
  · exact .inl h
  · exact .inr ⟨g, o, h1, h2⟩

/-- Only block g has been written, and no byte. -/
structure AdvW (g : Nat) (w w' : World) : Prop where
  grown : w.grownBy w' (some g)
  bytes : ∀ x v, w.cell? x = some (.int .u8 v) → w'.cell? x = some (.int .u8 v)
  frozen : ∀ o, w'.frozen? ⟨g, o, none⟩ = w.frozen? ⟨g, o, none⟩
theorem AdvW.refl (g : Nat) (w : World) : AdvW g w w := ⟨World.grownBy.refl _ _, fun _ _ h => h, fun _ => rfl⟩

theorem Bs.adv {w w' : World} {g : Nat} {a : Option Addr} {l : List Int} (h : Bs w a l) (hA : AdvW g w w') : Bs w' a l := by
  rcases h with h | ⟨b, o, h1, h2⟩
  · exact .inl h
  · exact .inr ⟨b, o, h1, fun j hj => hA.bytes _ _ (h2 j hj)⟩
theorem Cl.adv {w w' : World} {g : Nat} {x : Addr} {l : List Int} (h : Cl w x l) (hA : AdvW g w w') (hx : x.block ≠ g) : Cl w' x l := by
  obtain ⟨A, C, h1, h2, h3, h4, h5⟩ := h
  exact ⟨A, C, hA.grown.cell h1 (by simpa using hx), h2, h3, h4, h5.adv hA⟩
theorem PtIn.adv {w w' : World} {g g' : Nat} {a : Option Addr} {ps : List (List Int)} (h : PtIn w g' a ps) (hA : AdvW g w w') (hx : g' ≠ g) : PtIn w' g' a ps := by
  rcases h with h | ⟨o, h1, h2⟩
  · exact .inl h
  · exact .inr ⟨o, h1, fun k hk => (h2 k hk).adv hA hx⟩

theorem advW_setCell {w : World} {g o : Nat} {A : Option Addr} {L C : Nat} (h : w.cell? ⟨g, o, none⟩ = some (.slice A L C)) (u : Value) : AdvW g w (w.setCell ⟨g, o, none⟩ u) := by
  refine ⟨⟨rfl, rfl, rfl, by simp [World.setCell], fun k hk hne => ?_⟩, fun x v hx => ?_, fun _ => by simp⟩
  · exact Below.heap_setCell w ⟨g, o, none⟩ u k (fun e => hne (by simp at e; simp [e]))
  · rw [World.cell?_setCell_other _ _ _ _ (fun e => by rw [← e, h] at hx; cases hx)]; exact hx

theorem Bs_drop {w : World} {b o n : Nat} {l : List Int} (h : ∀ j, j < l.length → w.cell? ⟨b, o + j, none⟩ = some (.int .u8 (l.getD j 0))) : Bs w (some ⟨b, o + n, none⟩) (l.drop n) := by
  refine .inr ⟨b, o + n, rfl, fun j hj => ?_⟩
  have := h (n + j) (by simp at hj; omega)
  rw [Nat.add_assoc, this]; simp [List.getD]

/-- Behind the store. -/
theorem ptIn_store {w : World} {g o k n : Nat} {ps : List (List Int)} (hc : ∀ k, k < ps.length → Cl w ⟨g, o + k, none⟩ (part ps k)) (hk : k < ps.length) (hn : n < (part ps k).length) {A : Option Addr} {C : Nat}
    (hcell : w.cell? ⟨g, o + k, none⟩ = some (.slice A (part ps k).length C)) {b q : Nat} (hb : ∀ j, j < (part ps k).length → w.cell? ⟨b, q + j, none⟩ = some (.int .u8 ((part ps k).getD j 0)))
    (hC : (part ps k).length ≤ C) (hCm : C ≤ maxLen) :
    PtIn (w.setCell ⟨g, o + k, none⟩ (.slice (some ⟨b, q + n, none⟩) ((part ps k).length - n) (C - n))) g (some ⟨g, o + k, none⟩) ((part ps k).drop n :: ps.drop (k + 1)) := by
  have hA' := advW_setCell hcell (.slice (some ⟨b, q + n, none⟩) ((part ps k).length - n) (C - n))
  refine .inr ⟨o + k, rfl, fun j hj => ?_⟩
  cases j with
  | zero =>
    rw [part_cons_zero]
    refine ⟨some ⟨b, q + n, none⟩, C - n, ?_, by simp; omega, by omega, by simp, ?_⟩
    · rw [Nat.add_zero, World.cell?_setCell_same _ _ _ hcell]; simp
    · exact (Bs_drop hb).adv hA'
  | succ j =>
    rw [part_cons_succ, part_drop]
    simp at hj
    obtain ⟨A1, C1, q1, q2, q3, q4, q5⟩ := hc (k + 1 + j) (by omega)
    refine ⟨A1, C1, ?_, q2, q3, q4, q5.adv hA'⟩
    rw [World.cell?_setCell_other _ _ _ _ (fun e => by simp at e)]
    rw [← q1]; congr 2; omega
end Go.Proofs.Qxb6626875a
