import Derived.Test.Qxb6627205aMod
namespace Go.Proofs.Qxb6627205a
open Go.RowKit Go.Maps

theorem pol9 (w : World) (v1 v2 : Value) (deny allow : List Rule) (h1 : LV w deny v1) (h2 : LV w allow v2) : Calls Try.prog 9 #[v1, v2] w fun e w' => ∃ g, e = .returned (.pointer (some ⟨g, 0, none⟩)) ∧ LM w' g 0 deny ∧ LM w' g 15 allow ∧ Below w.heap.size w w' := by
  obtain ⟨dA, dxa3, dxa4, dxa5, dxa6, dya3, dya4, dya5, dya6, dC, dx0, dx1, dx2, dxn3, dxc3, dxn4, dxc4, dxn5, dxc5, dxn6, dxc6, dy0, dy1, dy2, dyn3, dyc3, dyn4, dyc4, dyn5, dyc5, dyn6, dyc6, rfl, hr1, hp1, hq1⟩ := h1
  obtain ⟨eA, exa3, exa4, exa5, exa6, eya3, eya4, eya5, eya6, eC, ex0, ex1, ex2, exn3, exc3, exn4, exc4, exn5, exc5, exn6, exc6, ey0, ey1, ey2, eyn3, eyc3, eyn4, eyc4, eyn5, eyc5, eyn6, eyc6, rfl, hr2, hp2, hq2⟩ := h2
  refine (new9 w dA dxa3 dxa4 dxa5 dxa6 dya3 dya4 dya5 dya6 eA exa3 exa4 exa5 exa6 eya3 eya4 eya5 eya6 deny.length dC dx0 dx1 dx2 dxn3 dxc3 dxn4 dxc4 dxn5 dxc5 dxn6 dxc6 dy0 dy1 dy2 dyn3 dyc3 dyn4 dyc4 dyn5 dyc5 dyn6 dyc6 allow.length eC ex0 ex1 ex2 exn3 exc3 exn4 exc4 exn5 exc5 exn6 exc6 ey0 ey1 ey2 eyn3 eyc3 eyn4 eyc4 eyn5 eyc5 eyn6 eyc6).mono ?_
  rintro e w' ⟨g, rfl, hg, hb⟩
  refine ⟨g, rfl, ?_, ?_, hb⟩
  · exact ⟨dA, dxa3, dxa4, dxa5, dxa6, dya3, dya4, dya5, dya6, dC, dx0, dx1, dx2, dxn3, dxc3, dxn4, dxc4, dxn5, dxc5, dxn6, dxc6, dy0, dy1, dy2, dyn3, dyc3, dyn4, dyc4, dyn5, dyc5, dyn6, dyc6, cell_in hg 0, cell_in hg 1, cell_in hg 2, cell_in hg 3, cell_in hg 4, cell_in hg 5, cell_in hg 6, cell_in hg 7, cell_in hg 8, cell_in hg 9, cell_in hg 10, cell_in hg 11, cell_in hg 12, cell_in hg 13, cell_in hg 14, hr1.below hb, hp1.kept (grown_of_below hb), hq1.kept (grown_of_below hb)⟩
  · exact ⟨eA, exa3, exa4, exa5, exa6, eya3, eya4, eya5, eya6, eC, ex0, ex1, ex2, exn3, exc3, exn4, exc4, exn5, exc5, exn6, exc6, ey0, ey1, ey2, eyn3, eyc3, eyn4, eyc4, eyn5, eyc5, eyn6, eyc6, cell_in hg 15, cell_in hg 16, cell_in hg 17, cell_in hg 18, cell_in hg 19, cell_in hg 20, cell_in hg 21, cell_in hg 22, cell_in hg 23, cell_in hg 24, cell_in hg 25, cell_in hg 26, cell_in hg 27, cell_in hg 28, cell_in hg 29, hr2.below hb, hp2.kept (grown_of_below hb), hq2.kept (grown_of_below hb)⟩
theorem LV.below {w w' : World} {rs : List Rule} {v : Value} (h : LV w rs v) (hb : Below w.heap.size w w') : LV w' rs v := by
  obtain ⟨dA, dxa3, dxa4, dxa5, dxa6, dya3, dya4, dya5, dya6, dC, dx0, dx1, dx2, dxn3, dxc3, dxn4, dxc4, dxn5, dxc5, dxn6, dxc6, dy0, dy1, dy2, dyn3, dyc3, dyn4, dyc4, dyn5, dyc5, dyn6, dyc6, rfl, hr1, hp1, hq1⟩ := h
  exact ⟨dA, dxa3, dxa4, dxa5, dxa6, dya3, dya4, dya5, dya6, dC, dx0, dx1, dx2, dxn3, dxc3, dxn4, dxc4, dxn5, dxc5, dxn6, dxc6, dy0, dy1, dy2, dyn3, dyc3, dyn4, dyc4, dyn5, dyc5, dyn6, dyc6, rfl, hr1.below hb, hp1.kept (grown_of_below hb), hq1.kept (grown_of_below hb)⟩

theorem costP_len (ps : List Pat) : ps.length ≤ costP ps ∧ ∀ p ∈ ps, p.text.size ≤ costP ps := by
  induction ps with
  | nil => simp [costP]
  | cons q ps ih =>
    simp only [costP, List.length_cons, List.mem_cons]
    refine ⟨by omega, fun p hp => ?_⟩
    rcases hp with rfl | hp
    · omega
    · have := ih.2 p hp; omega
theorem costR_facts (rs : List Rule) : rs.length ≤ costR rs ∧ npat (fun r => r.pr) rs ≤ costR rs ∧ npat (fun r => r.pa) rs ≤ costR rs ∧ ∀ r ∈ rs, costP r.pr ≤ costR rs ∧ costP r.pa ≤ costR rs := by
  induction rs with
  | nil => simp [costR, npat]
  | cons q rs ih =>
    obtain ⟨i1, i2, i3, i4⟩ := ih
    have h1 := (costP_len q.pr).1
    have h2 := (costP_len q.pa).1
    simp only [npat, costR, costR1, List.length_cons, List.mem_cons, List.map_cons, List.sum_cons] at *
    refine ⟨by omega, by omega, by omega, fun r hr => ?_⟩
    rcases hr with rfl | hr
    · omega
    · have := i4 r hr; omega
theorem sized_of {rs : List Rule} (h : costR rs ≤ 1048576) : Sized rs := by
  obtain ⟨i1, i2, i3, i4⟩ := costR_facts rs
  exact ⟨by omega, by omega, by omega, fun r hr => ⟨by have := (costP_len r.pr).1; have := (i4 r hr).1; omega, fun p hp => by have := (costP_len r.pr).2 p hp; have := (i4 r hr).1; omega⟩, fun r hr => ⟨by have := (costP_len r.pa).1; have := (i4 r hr).2; omega, fun p hp => by have := (costP_len r.pa).2 p hp; have := (i4 r hr).2; omega⟩⟩
theorem costS_len (ss : List ByteArray) : ss.length ≤ costS ss := by
  induction ss with
  | nil => simp
  | cons q ss ih => simp only [costS, List.length_cons]; omega
end Go.Proofs.Qxb6627205a
