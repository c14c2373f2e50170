import Derived.Test.Qxb6626922aSeen
namespace Go.Proofs.Qxb6626922a
open Go.RowKit Go.Maps

attribute [local go_sem ↓] Go.wp_at_zero Go.wp_at_succ

theorem Try.info3 : (Try.prog.info? 3).map (fun i => (i.zero, i.size, i.bytes)) = some (some (.int .i64 0), 1, 8) := by kernel_rfl

theorem own_lt {w : World} {base e size g n cap : Nat} {xs : List Value} (h : w.ownsRow base e size (.slice (some ⟨g, 0, none⟩) n cap) n xs) : g < w.heap.size := (h.lt g rfl).2

/-- What the loops of the second law find: we is the world as the loops began, b the map's block. -/
structure Rs (we wr : World) (b : Nat) (ds ks : List (List Value)) (k : Nat) (xs : List Value) : Prop where
  own : wr.ownsRow (b + 2) 3 1 (.slice (some ⟨b + 2, 0, none⟩) ds.length ds.length) ds.length xs
  idx : Idx wr b ks
  cell : wr.cell? ⟨b + 1, 0, none⟩ = some (.map (some b))
  lo : we.heap.size ≤ b
  bel : Below we.heap.size we wr
  pl : ∀ (t : Nat) d, t < k → ds[t]? = some d → ∃ i : Nat, ks[i]? = some d ∧ xs[t]? = some (.int .i64 ((i : Int) + 1))
  sub : ∀ d ∈ ks, d ∈ ds
  le : ks.length ≤ k

theorem Rs.kept {we wr wr' : World} {b k : Nat} {ds ks : List (List Value)} {xs : List Value} (h : Rs we wr b ds ks k xs) (hg : wr.grownBy wr' none) : Rs we wr' b ds ks k xs :=
  ⟨h.own.kept hg (.inr (by simp [Value.ownBlock])), h.idx.kept hg (by simp), hg.cell h.cell (by simp), h.lo, h.bel.grown hg h.bel.size (fun k hk => by cases hk), h.pl, h.sub, h.le⟩
theorem Rs.same {we wr wr' : World} {b k : Nat} {ds ks : List (List Value)} {xs : List Value} (h : Rs we wr b ds ks k xs) (hg : wr.grownBy wr' (some b)) (hI : Idx wr' b ks) : Rs we wr' b ds ks k xs :=
  ⟨h.own.kept hg (.inr (by simp [Value.ownBlock])), hI, hg.cell h.cell (by simp), h.lo, h.bel.grown hg h.bel.size (fun k hk => by cases hk; exact h.lo), h.pl, h.sub, h.le⟩
/-- behind Add of the digest at k: i its place; then the store into places. -/
theorem Rs.step {we wr wr' : World} {b k i : Nat} {ds ks ks' : List (List Value)} {xs : List Value} {d : List Value} (h : Rs we wr b ds ks k xs) (hg : wr.grownBy wr' (some b)) (hI : Idx wr' b ks') (hd : ds[k]? = some d) (hi : ks'[i]? = some d)
    (hpre : ∀ (j : Nat) e, ks[j]? = some e → ks'[j]? = some e) (hsub : ∀ e ∈ ks', e ∈ ds) (hle : ks'.length ≤ k + 1) :
    Rs we (wr'.setCell ⟨b + 2, k, none⟩ (.int .i64 ((i : Int) + 1))) b ds ks' (k + 1) (xs.set k (.int .i64 ((i : Int) + 1))) := by
  have hk : k < ds.length := (List.getElem?_eq_some_iff.1 hd).1
  have hlen : xs.length = ds.length := by simpa using h.own.1
  have ho := h.own.kept hg (.inr (by simp [Value.ownBlock]))
  have hst := ho.stored k (.int .i64 ((i : Int) + 1))
  refine ⟨hst.1, hI.kept hst.2 (by simp), hst.2.cell (hg.cell h.cell (by simp)) (by simp), h.lo, (h.bel.grown hg h.bel.size (fun k hk => by cases hk; exact h.lo)).grown hst.2 (Nat.le_trans h.bel.size hg.size) (fun k hk => by cases hk; have := h.lo; omega), fun t e ht he => ?_, hsub, hle⟩
  by_cases et : t = k
  · subst et
    rw [hd] at he
    cases he
    exact ⟨i, hi, List.getElem?_set_self (by omega)⟩
  · obtain ⟨j, h1, h2⟩ := h.pl t e (by omega) he
    exact ⟨j, hpre j e h1, by rw [List.getElem?_set_ne (fun e => et e.symm)]; exact h2⟩
theorem Rs.old {we wr wr' : World} {b k i : Nat} {ds ks : List (List Value)} {xs : List Value} {d : List Value} (h : Rs we wr b ds ks k xs) (hg : wr.grownBy wr' (some b)) (hI : Idx wr' b ks) (hd : ds[k]? = some d) (hi : ks[i]? = some d) :
    Rs we (wr'.setCell ⟨b + 2, k, none⟩ (.int .i64 ((i : Int) + 1))) b ds ks (k + 1) (xs.set k (.int .i64 ((i : Int) + 1))) :=
  h.step hg hI hd hi (fun _ _ h => h) h.sub (by have := h.le; omega)
theorem Rs.new {we wr wr' : World} {b k : Nat} {ds ks : List (List Value)} {xs : List Value} {d : List Value} (h : Rs we wr b ds ks k xs) (hg : wr.grownBy wr' (some b)) (hI : Idx wr' b (ks ++ [d])) (hd : ds[k]? = some d) :
    Rs we (wr'.setCell ⟨b + 2, k, none⟩ (.int .i64 ((ks.length : Int) + 1))) b ds (ks ++ [d]) (k + 1) (xs.set k (.int .i64 ((ks.length : Int) + 1))) := by
  refine h.step hg hI hd (by simp) (fun j e hj => ?_) (fun e he => ?_) (by have := h.le; simp; omega)
  · rw [List.getElem?_append_left (List.getElem?_eq_some_iff.1 hj).1]; exact hj
  · simp at he
    rcases he with he | he
    · exact h.sub e he
    · subst he; exact List.mem_of_getElem? hd
theorem Rs.place {we wr : World} {b k t : Nat} {ds ks : List (List Value)} {xs : List Value} {d : List Value} (h : Rs we wr b ds ks k xs) (ht : t < k) (hd : ds[t]? = some d) :
    ∃ i : Nat, ks[i]? = some d ∧ wr.cell? ⟨b + 2, t, none⟩ = some (.int .i64 ((i : Int) + 1)) := by
  obtain ⟨i, h1, h2⟩ := h.pl t d ht hd
  have hk : t < ds.length := (List.getElem?_eq_some_iff.1 hd).1
  exact ⟨i, h1, by rw [h.own.cellAt t (by omega)]; exact h2⟩
theorem Rs.spot {we wr : World} {b k : Nat} {ds ks : List (List Value)} {xs : List Value} (h : Rs we wr b ds ks k xs) (hk : k < ds.length) : (∃ v, wr.cell? ⟨b + 2, k, none⟩ = some v) ∧ wr.frozen? ⟨b + 2, k, none⟩ = false := by
  have hlen : xs.length = ds.length := by simpa using h.own.1
  exact ⟨⟨xs[k]'(by omega), by rw [h.own.cellAt k (by omega)]; exact List.getElem?_eq_getElem (by omega)⟩, h.own.frozenAt k⟩
end Go.Proofs.Qxb6626922a
