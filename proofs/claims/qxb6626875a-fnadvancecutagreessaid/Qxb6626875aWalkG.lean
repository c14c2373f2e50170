import Derived.Test.Qxb6626875aWalkF
import Derived.Lib.SliceRun
namespace Go.Proofs.Qxb6626875a
open Go.RowKit

/-- A cell of the new row: the slice of bytes l, made or nil. -/
def Sl (w : World) (v : Option Value) (l : List Int) : Prop := ∃ A C, v = some (.slice A l.length C) ∧ l.length ≤ C ∧ C ≤ maxLen ∧ (A = none → C = 0) ∧ Bs w A l
theorem Sl.below {w w' : World} {v : Option Value} {l : List Int} (h : Sl w v l) (hb : Below w.heap.size w w') : Sl w' v l := by
  obtain ⟨A, C, h1, h2, h3, h4, h5⟩ := h
  exact ⟨A, C, h1, h2, h3, h4, h5.below hb⟩
theorem Sl.adv {w w' : World} {g : Nat} {v : Option Value} {l : List Int} (h : Sl w v l) (hA : AdvW g w w') : Sl w' v l := by
  obtain ⟨A, C, h1, h2, h3, h4, h5⟩ := h
  exact ⟨A, C, h1, h2, h3, h4, h5.adv hA⟩

theorem owns_below {w w' : World} {base e size g n cap N : Nat} {xs : List Value} (h : w.ownsRow base e size (.slice (some ⟨g, 0, none⟩) n cap) n xs) (hb : Below N w w') (hg : g < N) : w'.ownsRow base e size (.slice (some ⟨g, 0, none⟩) n cap) n xs := by
  refine ⟨h.1, ?_⟩
  rcases h.2 with ⟨h', _⟩ | ⟨g', cap', cur, h', hb', hg', r⟩
  · simp at h'
  · simp only [Value.slice.injEq, Option.some.injEq, Addr.mk.injEq, and_true, true_and] at h'
    obtain ⟨rfl, rfl⟩ := h'
    exact .inr ⟨g, cap, cur, rfl, hb', by rw [hb.block g hg]; exact hg', r⟩
theorem owns_lt {w : World} {base e size g n cap : Nat} {xs : List Value} (h : w.ownsRow base e size (.slice (some ⟨g, 0, none⟩) n cap) n xs) : g < w.heap.size := (h.lt g rfl).2

/-- The row that is being filled. -/
def Fill (w wr : World) (ps : List (List Int)) (k : Nat) : Prop :=
  ∃ vs : List Value, wr.ownsRow w.heap.size 27 1 (.slice (some ⟨w.heap.size, 0, none⟩) ps.length ps.length) ps.length vs ∧ (∀ i, i < k → Sl wr vs[i]? (part ps i)) ∧ (∀ i, k ≤ i → i < ps.length → vs[i]? = some (.slice none 0 0)) ∧ Below w.heap.size w wr

theorem fill_nil {w wr : World} {ps : List (List Int)} {k : Nat} (h : Fill w wr ps k) (hk : k < ps.length) (he : part ps k = []) : Fill w wr ps (k + 1) := by
  obtain ⟨vs, h1, h2, h3, h4⟩ := h
  refine ⟨vs, h1, fun i hi => ?_, fun i hi hi2 => h3 i (by omega) hi2, h4⟩
  by_cases e : i = k
  · subst e
    rw [he]
    exact ⟨none, 0, h3 i (Nat.le_refl _) hk, Nat.le_refl _, Nat.zero_le _, fun _ => rfl, .inl rfl⟩
  · exact h2 i (by omega)
theorem fill_store {w wr wi : World} {ps : List (List Int)} {k g : Nat} (h : Fill w wr ps k) (hk : k < ps.length) (hb : Below wr.heap.size wr wi) (hB : Bs wi (some ⟨g, 0, none⟩) (part ps k)) (hm : (part ps k).length ≤ maxLen) :
    Fill w (wi.setCell ⟨w.heap.size, k, none⟩ (.slice (some ⟨g, 0, none⟩) (part ps k).length (part ps k).length)) ps (k + 1) := by
  obtain ⟨vs, h1, h2, h3, h4⟩ := h
  have hlt := owns_lt h1
  have h1' := owns_below h1 hb hlt
  have hlen : vs.length = ps.length := by simpa using h1.1
  have hc : wi.cell? ⟨w.heap.size, k, none⟩ = some (.slice none 0 0) := by rw [h1'.cellAt k (by omega)]; exact h3 k (Nat.le_refl _) hk
  have hA := advW_setCell hc (.slice (some ⟨g, 0, none⟩) (part ps k).length (part ps k).length)
  have hst := h1'.stored k (.slice (some ⟨g, 0, none⟩) (part ps k).length (part ps k).length)
  refine ⟨_, hst.1, fun i hi => ?_, fun i hi hi2 => ?_, ?_⟩
  · by_cases e : i = k
    · subst e
      exact ⟨_, _, List.getElem?_set_self (by omega), Nat.le_refl _, hm, by simp, hB.adv hA⟩
    · rw [List.getElem?_set_ne (fun e' => e e'.symm)]
      exact ((h2 i (by omega)).below hb).adv hA
  · rw [List.getElem?_set_ne (by omega)]
    exact h3 i (by omega) hi2
  · exact (h4.trans (hb.mono h4.size)).setCell (Nat.le_refl _) _
theorem fill_cell {w wr wi : World} {ps : List (List Int)} {k : Nat} (h : Fill w wr ps k) (hk : k < ps.length) (hb : Below wr.heap.size wr wi) : wi.cell? ⟨w.heap.size, k, none⟩ = some (.slice none 0 0) ∧ wi.frozen? ⟨w.heap.size, k, none⟩ = false := by
  obtain ⟨vs, h1, h2, h3, h4⟩ := h
  have h1' := owns_below h1 hb (owns_lt h1)
  exact ⟨by rw [h1'.cellAt k (by omega)]; exact h3 k (Nat.le_refl _) hk, h1'.frozenAt k⟩
theorem fill_end {w wr : World} {ps : List (List Int)} (h : Fill w wr ps ps.length) : PtIn wr w.heap.size (some ⟨w.heap.size, 0, none⟩) ps ∧ (∀ o, wr.frozen? ⟨w.heap.size, o, none⟩ = false) ∧ Below w.heap.size w wr := by
  obtain ⟨vs, h1, h2, h3, h4⟩ := h
  refine ⟨.inr ⟨0, rfl, fun k hk => ?_⟩, fun o => h1.frozenAt o, h4⟩
  obtain ⟨A, C, e, r⟩ := h2 k hk
  exact ⟨A, C, by rw [Nat.zero_add, h1.cellAt k (by omega)]; exact e, r⟩

/-- The bytes that are being copied. -/
def Copy (wr wi : World) (g : Nat) (l : List Int) (j : Nat) : Prop :=
  ∃ xs : List Value, wi.ownsRow g 5 1 (.slice (some ⟨g, 0, none⟩) l.length l.length) l.length xs ∧ (∀ i, i < j → xs[i]? = some (.int .u8 (l.getD i 0))) ∧ g = wr.heap.size ∧ Below wr.heap.size wr wi
theorem copy_cell {wr wi : World} {g : Nat} {l : List Int} {j : Nat} (h : Copy wr wi g l j) (hj : j < l.length) : (∃ v, wi.cell? ⟨g, j, none⟩ = some v) ∧ wi.frozen? ⟨g, j, none⟩ = false := by
  obtain ⟨xs, h1, h2, h3, h4⟩ := h
  have hlen : xs.length = l.length := by simpa using h1.1
  exact ⟨⟨xs[j]'(by omega), by rw [h1.cellAt j (by omega)]; exact List.getElem?_eq_getElem (by omega)⟩, h1.frozenAt j⟩
theorem copy_store {wr wi : World} {g : Nat} {l : List Int} {j : Nat} (h : Copy wr wi g l j) (hj : j < l.length) : Copy wr (wi.setCell ⟨g, j, none⟩ (.int .u8 (l.getD j 0))) g l (j + 1) := by
  obtain ⟨xs, h1, h2, h3, h4⟩ := h
  have hlen : xs.length = l.length := by simpa using h1.1
  refine ⟨_, (h1.stored j _).1, fun i hi => ?_, h3, h4.setCell (by simp [h3]) _⟩
  by_cases e : i = j
  · subst e; exact List.getElem?_set_self (by omega)
  · rw [List.getElem?_set_ne (fun e' => e e'.symm)]; exact h2 i (by omega)
theorem copy_end {wr wi : World} {g : Nat} {l : List Int} (h : Copy wr wi g l l.length) : Bs wi (some ⟨g, 0, none⟩) l ∧ Below wr.heap.size wr wi := by
  obtain ⟨xs, h1, h2, h3, h4⟩ := h
  exact ⟨.inr ⟨g, 0, rfl, fun j hj => by rw [Nat.zero_add, h1.cellAt j (by omega)]; exact h2 j hj⟩, h4⟩
end Go.Proofs.Qxb6626875a
