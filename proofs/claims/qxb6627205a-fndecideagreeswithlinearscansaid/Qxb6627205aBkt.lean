import Derived.Test.Qxb6627205aList
import Derived.ArgAppend
namespace Go.Proofs.Qxb6627205a
open Go.RowKit Go.Maps

attribute [local go_sem ↓] Go.wp_at_zero Go.wp_at_succ

theorem Try.info32 : (Try.prog.info? 32).map (fun i => (i.zero, i.size, i.bytes)) = some (some (.slice none 0 0), 1, 24) := by kernel_rfl

theorem set_block {w : World} {g n : Nat} {cur : Array Value} {t : TypeId} (x : Value) (h : w.heap[g]? = some (.cells cur t)) : (w.setCell ⟨g, n, none⟩ x).heap[g]? = some (.cells (cur.setIfInBounds n x) t) := by
  have hlt : g < w.heap.size := (Array.getElem?_eq_some_iff.1 h).1
  have e : w.heap[g] = .cells cur t := (Array.getElem?_eq_some_iff.1 h).2
  simp [World.setCell, hlt, Array.getElem_modify, e]

/-- The list of buckets: it lies in the buffer g0, or in a block made since w0. -/
def Bk (w0 : World) (g0 : Nat) (w : World) (v : Value) (vs : List Value) : Prop :=
  ∃ g cap cur t, v = .slice (some ⟨g, 0, none⟩) vs.length cap ∧ (g = g0 ∨ w0.heap.size ≤ g) ∧ w.heap[g]? = some (.cells cur t) ∧ vs.length ≤ cap ∧ cap ≤ maxLen ∧ cur.size = cap ∧ cur.toList.take vs.length = vs ∧ w0.grownBy w (some g0)

theorem bk_room {w0 w : World} {g0 g cap n : Nat} {cur : Array Value} {t : TypeId} {vs : List Value} (x : Value) (h1 : g = g0 ∨ w0.heap.size ≤ g) (h2 : w.heap[g]? = some (.cells cur t)) (h3 : vs.length + 1 ≤ cap) (h4 : cap ≤ maxLen) (h5 : cur.size = cap) (h6 : cur.toList.take vs.length = vs) (h7 : w0.grownBy w (some g0)) (hn : n = vs.length) : Bk w0 g0 (w.setCell ⟨g, n, none⟩ x) (.slice (some ⟨g, 0, none⟩) (vs.length + 1) cap) (vs ++ [x]) := by
  subst hn
  refine ⟨g, cap, cur.setIfInBounds vs.length x, t, by simp, h1, set_block x h2, by simpa using h3, h4, by simpa using h5, ?_, grown_fresh h7 (grown_set w ⟨g, vs.length, none⟩ x) (h1.elim (fun e => .inl (by rw [e])) .inr)⟩
  simp only [Array.toList_setIfInBounds, List.length_append, List.length_cons, List.length_nil]
  have hl : vs.length < cur.toList.length := by simp; omega
  apply List.ext_getElem?
  intro j
  rw [List.getElem?_take]
  by_cases hj : j < vs.length
  · rw [if_pos (by omega), List.getElem?_set_ne (by omega), List.getElem?_append_left hj]
    have hv : (cur.toList.take vs.length)[j]? = vs[j]? := by rw [h6]
    rw [← hv, List.getElem?_take, if_pos hj]
  · by_cases e : j = vs.length
    · subst e
      rw [if_pos (by omega), List.getElem?_set_self hl]; simp
    · rw [if_neg (by omega), List.getElem?_eq_none (by simp; omega)]
theorem bk_grow {w0 w w' : World} {g0 : Nat} {v x : Value} {vs : List Value} (h7 : w0.grownBy w (some g0)) (h : w'.ownsRow w.heap.size 32 1 v (vs.length + 1) (vs ++ [x])) (hg : w.grownBy w' none) : Bk w0 g0 w' v (vs ++ [x]) := by
  rcases h.2 with ⟨_, h2⟩ | ⟨g, cap, cur, h1, h2, h3, h4, h5, h6, h8⟩
  · omega
  · refine ⟨g, cap, cur, 32, by simpa using h1, .inr (Nat.le_trans h7.size h2), h3, by simpa using h4, h5, by simpa using h6, by simpa using h8, ?_⟩
    exact ⟨hg.os.trans h7.os, hg.tape.trans h7.tape, hg.output.trans h7.output, Nat.le_trans h7.size hg.size, fun i hi hne => by rw [hg.block i (Nat.lt_of_lt_of_le hi h7.size) (by simp)]; exact h7.block i hi hne⟩

def app (vs : List Value) (n : Nat) (x : Value) : List Value := if n = 0 then vs else vs ++ [x]

set_option maxHeartbeats 800000 in
theorem app34 (w0 w : World) (g0 : Nat) (v : Value) (vs : List Value) (A : Option Addr) (n C : Nat) (hB : Bk w0 g0 w v vs) (hl : vs.length ≤ 4398046511105) (hn : n ≤ 4194304) :
    Calls Try.prog 34 #[v, .slice A n C] w fun e w' => ∃ v', e = .returned v' ∧ Bk w0 g0 w' v' (app vs n (.slice A n C)) := by
  obtain ⟨i0, hi, hz0, hz1, hz2⟩ := info_parts Try.info32
  have HB : Hid (Bk w0 g0 w v vs) := hB
  obtain ⟨g, cap, cur, t, rfl, h1, h2, h3, h4, h5, h6, h7⟩ := hB
  by_cases h0 : n = 0
  · subst h0
    clear h1 h2 h3 h4 h5 h6 h7
    go_enter Try.func34, Try.ntmps34
    go_wp2
    go_ret
    exact ⟨_, rfl, by simpa [app] using HB.out⟩
  · have h0' : ((n : Int) == 0) = false := by simp; exact h0
    have HA : Hid (app vs n (.slice A n C) = vs ++ [.slice A n C]) := by show app _ _ _ = _; simp [app, h0]
    have HH : Hid ((g = g0 ∨ w0.heap.size ≤ g) ∧ w.heap[g]? = some (.cells cur t) ∧ vs.length ≤ cap ∧ cap ≤ maxLen ∧ cur.size = cap ∧ cur.toList.take vs.length = vs ∧ w0.grownBy w (some g0)) := ⟨h1, h2, h3, h4, h5, h6, h7⟩
    have HC : Hid (∀ j, (w.alloc (.cells #[.slice A n C] 32)).cell? ⟨g, j, none⟩ = cur[j]?) := fun j => by
      have hlt : g < w.heap.size := (Array.getElem?_eq_some_iff.1 HH.out.2.1).1
      rw [World.cell?_alloc_lt _ _ _ (by exact hlt)]
      exact cell_in HH.out.2.1 j
    have HF : Hid (∀ j, (w.alloc (.cells #[.slice A n C] 32)).frozen? ⟨g, j, none⟩ = false) := fun j => by
      rw [frozen?_alloc_cells]
      exact frozen_in HH.out.2.1 j
    have HG1 : Hid (w0.grownBy (w.alloc (.cells #[.slice A n C] 32)) (some g0)) := HH.out.2.2.2.2.2.2.trans (World.grownBy_alloc _ _ _)
    clear h0 h1 h2 h3 h4 h5 h6 h7 HB
    go_enter Try.func34, Try.ntmps34
    go_wp2_with (first
      | (at_builtin; refine wpList_append_arg _ rfl _ _ 75 rfl 32 i0 (.slice none 0 0) 1 24 Try.underlying75 hi hz0 hz1 hz2 rfl (by omega) g 0 vs.length cap vs rfl (by omega) ?a1 ⟨w.heap.size, 0, none⟩ 1 1 [.slice A n C] rfl rfl (by exact cell_one_new w _ _) (by intro u hu; simp at hu; subst hu; rfl) ?a2 (by unfold maxLen; omega) (by omega) ?a3 ?a4))
    case a1 =>
      intro j u hj
      have hjl := (List.getElem?_eq_some_iff.1 hj).1
      rw [Nat.zero_add, HC.out]
      have h6 := HH.out.2.2.2.2.2.1
      rw [← h6, List.getElem?_take, if_pos hjl] at hj
      simpa using hj
    case a2 =>
      intro hr j hj
      rw [HC.out, HF.out]
      have h5 := HH.out.2.2.2.2.1
      simp at hj
      subst hj
      refine ⟨?_, rfl⟩
      rw [Array.getElem?_eq_getElem (by omega)]; rfl
    case a3 =>
      intro hr
      have HR : Hid (Bk w0 g0 ((w.alloc (.cells #[.slice A n C] 32)).setCell ⟨g, vs.length, none⟩ (.slice A n C)) (.slice (some ⟨g, 0, none⟩) (vs.length + 1) cap) (vs ++ [.slice A n C])) :=
        bk_room (w := w.alloc (.cells #[.slice A n C] 32)) (cur := cur) (t := t) _ HH.out.1 ((Below.heap_alloc _ _ _ (Array.getElem?_eq_some_iff.1 HH.out.2.1).1).trans HH.out.2.1) hr HH.out.2.2.2.1 HH.out.2.2.2.2.1 HH.out.2.2.2.2.2.1 HG1.out rfl
      clear hr
      simp only [World.setCells]
      generalize (w.alloc (.cells #[.slice A n C] 32)).setCell ⟨g, vs.length, none⟩ (.slice A n C) = W2 at *
      go_wp2
      go_ret
      exact ⟨_, rfl, by rw [HA.out]; exact HR.out⟩
    case a4 =>
      intro hr v' w' hown hgr
      have HR : Hid (Bk w0 g0 w' v' (vs ++ [.slice A n C])) := bk_grow (w := w.alloc (.cells #[.slice A n C] 32)) HG1.out (by rw [World.size_alloc]; exact hown) hgr
      clear hr hown hgr
      go_wp2
      go_ret
      exact ⟨_, rfl, by rw [HA.out]; exact HR.out⟩
end Go.Proofs.Qxb6627205a
