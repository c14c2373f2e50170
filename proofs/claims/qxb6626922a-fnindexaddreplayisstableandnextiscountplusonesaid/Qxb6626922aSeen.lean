import Derived.Test.Qxb6626922aBytes
import Derived.Deep.LoopGhost
namespace Go.Proofs.Qxb6626922a
open Go.RowKit Go.Maps

theorem Try.info26 : ∃ z, (Try.prog.info? 26).map (fun i => (i.zero, i.size, i.bytes)) = some (some z, 32, 32) ∧ z.cells.size = 32 := by
  refine ⟨.agg (Array.replicate 32 (.int .u8 0)), by kernel_rfl, by simp [Value.cells]⟩

/-- The argument. -/
def Ds (w : World) (a : Option Addr) (ds : List (List Value)) : Prop :=
  ds = [] ∨ ∃ b o, a = some ⟨b, o, none⟩ ∧ ∀ (k : Nat) d, ds[k]? = some d → Dig d ∧ w.rangeAt b (o + k * 32) d
theorem range_below {w w' : World} {b o N : Nat} {d : List Value} (h : w.rangeAt b o d) (hb : Below N w w') (hN : ∀ (j : Nat) v, d[j]? = some v → b < N) : w'.rangeAt b o d := fun j v hv => (hb.cell (hN j v hv)).trans (h j v hv)
theorem range_lt {w : World} {b o : Nat} {d : List Value} (h : w.rangeAt b o d) : ∀ (j : Nat) v, d[j]? = some v → b < w.heap.size := fun j v hv => block_lt_of_cell (h j v hv)
theorem range_grown {w w' : World} {b o : Nat} {d : List Value} {row : Option Nat} (h : w.rangeAt b o d) (hg : w.grownBy w' row) (hne : some b ≠ row) : w'.rangeAt b o d := fun j v hv => hg.cell (h j v hv) hne
theorem Ds.below {w w' : World} {a : Option Addr} {ds : List (List Value)} (h : Ds w a ds) (hb : Below w.heap.size w w') : Ds w' a ds := by
  rcases h with h | ⟨b, o, h1, h2⟩
  · exact .inl h
  · exact .inr ⟨b, o, h1, fun k d hd => ⟨(h2 k d hd).1, range_below (h2 k d hd).2 hb (range_lt (h2 k d hd).2)⟩⟩

theorem flat_get (ks : List (List Value)) (h : ∀ d ∈ ks, d.length = 32) (j : Nat) (d : List Value) (hj : ks[j]? = some d) (t : Nat) (v : Value) (ht : d[t]? = some v) : ks.flatten[j * 32 + t]? = some v := by
  induction ks generalizing j with
  | nil => simp at hj
  | cons e ks ih =>
    have he : e.length = 32 := h e (by simp)
    cases j with
    | zero =>
      simp at hj
      subst hj
      have hlt := (List.getElem?_eq_some_iff.1 ht).1
      rw [List.flatten_cons, Nat.zero_mul, Nat.zero_add, List.getElem?_append_left hlt]
      exact ht
    | succ j =>
      rw [List.flatten_cons, List.getElem?_append_right (by omega), he, show (j + 1) * 32 + t - 32 = j * 32 + t by omega]
      exact ih (fun d hd => h d (by simp [hd])) j (by simpa using hj)
theorem flat_len (ks : List (List Value)) (h : ∀ d ∈ ks, d.length = 32) : ks.flatten.length = ks.length * 32 := by
  induction ks with
  | nil => rfl
  | cons e ks ih =>
    rw [List.flatten_cons, List.length_append, h e (by simp), ih (fun d hd => h d (by simp [hd]))]
    simp; omega
theorem own_range {w : World} {base g n : Nat} {ks : List (List Value)} (h : w.ownsRow base 26 32 (.slice (some ⟨g, 0, none⟩) ks.length n) ks.length ks.flatten) (hk : ∀ d ∈ ks, Dig d) {j : Nat} {d : List Value} (hj : ks[j]? = some d) : w.rangeAt g (j * 32) d := by
  intro t v ht
  have h1 := flat_get ks (fun d hd => (hk d hd).1) j d hj t v ht
  have hd : d.length = 32 := (hk d (List.mem_of_getElem? hj)).1
  have ht2 := (List.getElem?_eq_some_iff.1 ht).1
  have hj2 := (List.getElem?_eq_some_iff.1 hj).1
  rw [h.cellAt (j * 32 + t) (by omega)]
  exact h1

/-- A load of a long row in a region that only reads. -/
theorem wpQuiet_load_mid {P : Program} {ops : Array Oper} {C : World → Prop} {Q : Act → Prop} {rest : List Oper} {op : Oper} {a : Act} (hgd : op.guard = none) (ty : TypeId) (x : Operand) (ho : op.op = .load ty x)
    (b o : Nat) (hx : a.eval x = .pointer (some ⟨b, o, none⟩)) (cs : List Value) (d : TypeDesc) (hc : ∀ w, C w → w.rangeAt b o cs)
    (hu : P.underlying ty = some d) (hd : d.isRow = true) (hi : (P.info? ty).map (·.size) = some cs.length)
    (h : wpQuiet P ops C Q rest (a.put op.dst (.agg cs.toArray))) : wpQuiet P ops C Q (op :: rest) a := by
  refine wpQuiet_step (fun K hK => ?_)
  rw [if_pos (by simp [Region.wanted, hgd])]
  refine ⟨.agg cs.toArray, fun w hw => ?_, hK _ h⟩
  unfold Oper.quietAt execOp
  simp only [ho, hx, Instr.loadAt, Instr.sureAddr, Sem.run_bind, Sem.run_pure, Result.andThen_ok, run_loadVar_mid w b o ty cs d (hc w hw) hu hd hi]
  exact ⟨rfl, rfl⟩

/-- What a round of the first law finds. -/
structure St (w wr : World) (n : Nat) (ks : List (List Value)) : Prop where
  own : wr.ownsRow (w.heap.size + 2) 26 32 (.slice (some ⟨w.heap.size + 2, 0, none⟩) ks.length n) ks.length ks.flatten
  idx : Idx wr w.heap.size ks
  cell : wr.cell? ⟨w.heap.size + 1, 0, none⟩ = some (.map (some w.heap.size))
  dig : ∀ d ∈ ks, Dig d
  bel : Below w.heap.size w wr

theorem St.kept {w wr wr' : World} {n : Nat} {ks : List (List Value)} (h : St w wr n ks) (hg : wr.grownBy wr' none) : St w wr' n ks :=
  ⟨h.own.kept hg (.inr (by simp [Value.ownBlock])), h.idx.kept hg (by simp), hg.cell h.cell (by simp), h.dig, h.bel.grown hg h.bel.size (fun k hk => by cases hk)⟩
theorem St.added {w wr wr' : World} {n : Nat} {ks : List (List Value)} (h : St w wr n ks) (hg : wr.grownBy wr' (some w.heap.size)) (hI : Idx wr' w.heap.size ks) : St w wr' n ks :=
  ⟨h.own.kept hg (.inr (by simp [Value.ownBlock])), hI, hg.cell h.cell (by simp), h.dig, h.bel.grown hg h.bel.size (fun k hk => by cases hk; exact Nat.le_refl _)⟩
end Go.Proofs.Qxb6626922a
