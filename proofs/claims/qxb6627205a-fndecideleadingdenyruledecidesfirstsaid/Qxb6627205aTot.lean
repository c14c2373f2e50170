import Derived.Test.Qxb6627205aLook
namespace Go.Proofs.Qxb6627205a
open Go.RowKit Go.Maps

attribute [local go_sem ↓] Go.wp_at_zero Go.wp_at_succ

def Slices (vs : List Value) : Prop := ∀ u ∈ vs, ∃ A n C, u = Value.slice A n C ∧ n ≤ 4194304
theorem slices_vals {w : World} {b0 base n : Nat} {V : Nat → List UInt8 → Value} {L : Nat → List UInt8 → List Int} {sel : Rule → List Pat} {rs : List Rule} {k : Nat} (h : Ix w b0 base n V L) (hi : Inv L sel rs k) (ns : List (Nat × List UInt8)) : Slices (vals V ns) := by
  intro u hu
  simp only [vals, List.mem_map] at hu
  obtain ⟨x, _, rfl⟩ := hu
  obtain ⟨A, C, hV⟩ := own_slice (h.rows.own x.1 x.2)
  exact ⟨A, _, C, hV, hi.len x.1 x.2⟩
theorem Bk.cells {w0 w : World} {g0 : Nat} {v : Value} {vs : List Value} (h : Bk w0 g0 w v vs) : ∃ g cap, v = .slice (some ⟨g, 0, none⟩) vs.length cap ∧ (g = g0 ∨ w0.heap.size ≤ g) ∧ vs.length ≤ maxLen ∧ ∀ (j : Nat) u, vs[j]? = some u → w.cell? ⟨g, j, none⟩ = some u := by
  obtain ⟨g, cap, cur, t, h1, h2, h3, h4, h5, h6, h7, h8⟩ := h
  refine ⟨g, cap, h1, h2, by omega, fun j u hj => ?_⟩
  have hl := (List.getElem?_eq_some_iff.1 hj).1
  rw [cell_in h3]
  rw [← h7, List.getElem?_take, if_pos hl] at hj
  simpa using hj
def AnInt (e : Ending) : Prop := ∃ x : Int, e = .returned (.int .i64 x)

set_option maxHeartbeats 400000 in
theorem total31 (w : World) (g cap : Nat) (vs : List Value) (hl : vs.length ≤ maxLen) (hc : ∀ (j : Nat) u, vs[j]? = some u → w.cell? ⟨g, j, none⟩ = some u) (hs : Slices vs) :
    Calls Try.prog 31 #[.slice (some ⟨g, 0, none⟩) vs.length cap] w fun e w' => AnInt e ∧ w' = w := by
  have HC : Hid (∀ (j : Nat) u, vs[j]? = some u → w.cell? ⟨g, j, none⟩ = some u) := hc
  have HS : Hid (Slices vs) := hs
  unfold maxLen at hl
  clear hc hs
  go_enter Try.func31, Try.ntmps31
  go_wp2
  go_loopg [3, 8] (vs.length + 1) (fun gk z i wr => ∃ (k : Nat) (x : Int), k ≤ vs.length ∧ gk = vs.length + 1 - k ∧ z = .int .i64 x ∧ i = .int .i64 k ∧ wr = w)
  case atStart => exact ⟨0, 0, Nat.zero_le _, rfl, rfl, rfl, rfl⟩
  case round =>
    obtain ⟨k, x, hk, rfl, rfl, rfl, rfl⟩ := hrel
    by_cases hlt : k < vs.length
    · obtain ⟨A, n, C, hu, hn⟩ := HS.out vs[k] (List.getElem_mem _)
      have hc := HC.out k vs[k] (List.getElem?_eq_getElem hlt)
      rw [hu] at hc
      have hkl : (k : Int) < (vs.length : Int) := by omega
      clear hu
      go_wp2
      go_roundg (vs.length + 1 - (k + 1))
      case rel => exact ⟨k + 1, _, by omega, rfl, rfl, by go_num, rfl⟩
      case measure => omega
    · go_wp2
      go_ret
      exact ⟨⟨_, rfl⟩, rfl⟩
end Go.Proofs.Qxb6627205a
