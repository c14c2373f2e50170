import Derived.Test.Qxb6627205aPol
import Derived.Laws.MakeOwn
namespace Go.Proofs.Qxb6627205a
open Go.RowKit Go.Maps

attribute [local go_sem ↓] Go.wp_at_zero Go.wp_at_succ

theorem Try.info45 : (Try.prog.info? 45).map (fun i => (i.zero, i.size, i.bytes)) = some (some (.agg #[.string ByteArray.empty, .slice none 0 0, .slice none 0 0]), 3, 64) := by kernel_rfl
/-- The first k rules of rs lie in the row, their patterns in the old world. -/
def Rw3 (w : World) (xs : List Value) (rs : List Rule) (k : Nat) : Prop := ∀ (i : Nat) q, i < k → rs[i]? = some q → ∃ A1 C1 A2 C2, xs[i * 3]? = some (.string q.name) ∧ xs[i * 3 + 1]? = some (.slice A1 q.pr.length C1) ∧ xs[i * 3 + 2]? = some (.slice A2 q.pa.length C2) ∧ Ps w A1 q.pr ∧ Ps w A2 q.pa ∧ q.name.size ≤ maxLen ∧ q.pr.length ≤ maxLen ∧ q.pa.length ≤ maxLen
theorem rw3_next {w : World} {xs : List Value} {rs : List Rule} {k : Nat} {q : Rule} {A1 A2 : Option Addr} {C1 C2 : Nat} (hl : xs.length = k * 3) (h : Rw3 w xs rs k) (hq : rs[k]? = some q) (p1 : Ps w A1 q.pr) (p2 : Ps w A2 q.pa) (hs : q.name.size ≤ maxLen ∧ q.pr.length ≤ maxLen ∧ q.pa.length ≤ maxLen) : Rw3 w (xs ++ [.string q.name, .slice A1 q.pr.length C1, .slice A2 q.pa.length C2]) rs (k + 1) := by
  intro i q' hi hq'
  by_cases e : i = k
  · subst e
    rw [hq] at hq'
    cases hq'
    refine ⟨A1, C1, A2, C2, ?_, ?_, ?_, p1, p2, hs⟩
    · rw [List.getElem?_append_right (by omega), hl, Nat.sub_self]; rfl
    · rw [List.getElem?_append_right (by omega), hl, show i * 3 + 1 - i * 3 = 1 by omega]; rfl
    · rw [List.getElem?_append_right (by omega), hl, show i * 3 + 2 - i * 3 = 2 by omega]; rfl
  · obtain ⟨B1, D1, B2, D2, h1, h2, h3, h4⟩ := h i q' (by omega) hq'
    exact ⟨B1, D1, B2, D2, by rw [List.getElem?_append_left (by omega)]; exact h1, by rw [List.getElem?_append_left (by omega)]; exact h2, by rw [List.getElem?_append_left (by omega)]; exact h3, h4⟩
theorem rl_of_own {w w' : World} {base : Nat} {v : Value} {rs : List Rule} {xs : List Value} (h : w'.ownsRow base 45 3 v rs.length xs) (hr : Rw3 w xs rs rs.length) (hb : Below w.heap.size w w') : ∃ A C, v = .slice A rs.length C ∧ Rl w' A rs := by
  have hlen : xs.length = rs.length * 3 := h.1
  rcases h.2 with ⟨h1, h2⟩ | ⟨g, cap, cur, h1, _⟩
  · exact ⟨none, 0, by rw [h1, h2], .inl (List.eq_nil_of_length_eq_zero h2)⟩
  · refine ⟨some ⟨g, 0, none⟩, cap, h1, .inr ⟨g, 0, rfl, fun k r hk => ?_⟩⟩
    subst h1
    have hlt := (List.getElem?_eq_some_iff.1 hk).1
    obtain ⟨A1, C1, A2, C2, q1, q2, q3, q4, q5, q6⟩ := hr k r hlt hk
    refine ⟨A1, C1, A2, C2, ?_, ?_, ?_, q4.below hb, q5.below hb, q6⟩
    · rw [Nat.zero_add, h.cellAt _ (by omega)]; exact q1
    · rw [Nat.zero_add, h.cellAt _ (by omega)]; exact q2
    · rw [Nat.zero_add, h.cellAt _ (by omega)]; exact q3
theorem news3 (w : World) (x y z : Value) (t : TypeId) : ∀ j q, [x, y, z][j]? = some q → (w.alloc (.cells #[x, y, z] t)).cell? ((⟨w.heap.size, 0, none⟩ : Addr).add j) = some q := by
  intro j q hu
  rw [WideShapes.add_plain, Nat.zero_add, World.cell?_alloc_new]
  simpa using hu
theorem verdict_lead {deny allow : List Rule} {vs : List ByteArray} {m : ByteArray} {r : Rule} (h : ruleOK vs m r = true) : verdict (r :: deny) allow vs m = (false, r.name) := by simp [verdict, h]
theorem verdict_skip {deny allow : List Rule} {vs : List ByteArray} {m : ByteArray} {r : Rule} (h : ruleOK vs m r = false) : verdict (r :: deny) allow vs m = verdict deny allow vs m := by simp [verdict, h]
end Go.Proofs.Qxb6627205a
