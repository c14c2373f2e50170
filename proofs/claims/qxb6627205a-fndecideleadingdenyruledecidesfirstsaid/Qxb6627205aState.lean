import Derived.Test.Qxb6627205aInv
namespace Go.Proofs.Qxb6627205a
open Go.RowKit Go.Maps

attribute [local go_sem ↓] Go.wp_at_zero Go.wp_at_succ

set_option maxHeartbeats 400000 in
theorem new29 (w : World) (b0 b1 b2 : Nat) (a3 a4 a5 a6 : Option Addr) (n3 n4 n5 n6 c3 c4 c5 c6 : Nat) :
    Calls Try.prog 29 #[.map (some b0), .map (some b1), .map (some b2), .slice a3 n3 c3, .slice a4 n4 c4, .slice a5 n5 c5, .slice a6 n6 c6] w fun e w' => e = .returned (.agg #[.map (some b0), .map (some b1), .map (some b2), .slice a3 n3 c3, .slice a4 n4 c4, .slice a5 n5 c5, .slice a6 n6 c6]) ∧ Below w.heap.size w w' := by
  go_enter Try.func29, Try.ntmps29
  go_wp2
  refine bodyPost_ret (v := .agg #[.map (some b0), .map (some b1), .map (some b2), .slice a3 n3 c3, .slice a4 n4 c4, .slice a5 n5 c5, .slice a6 n6 c6]) (by simp [results, Try.results29, go_sem]) rfl ⟨rfl, ?_⟩
  exact (Below.refl _ _).alloc (Nat.le_refl _) _

def npat (sel : Rule → List Pat) (rs : List Rule) : Nat := (rs.map fun r => (sel r).length).sum
theorem npat_take (sel : Rule → List Pat) (rs : List Rule) (k : Nat) (r : Rule) (h : rs[k]? = some r) : npat sel (rs.take (k + 1)) = npat sel (rs.take k) + (sel r).length := by
  have hlt := (List.getElem?_eq_some_iff.1 h).1
  have e : rs[k] = r := (List.getElem?_eq_some_iff.1 h).2
  rw [List.take_succ_eq_append_getElem hlt]
  simp [npat, e]
theorem npat_le (sel : Rule → List Pat) (rs : List Rule) (k : Nat) : npat sel (rs.take k) ≤ npat sel rs := by
  have : npat sel rs = npat sel (rs.take k) + npat sel (rs.drop k) := by
    unfold npat
    rw [← List.sum_append, ← List.map_append, List.take_append_drop]
  omega

/-- Where the index stands while rule k is filed. -/
structure St (w : World) (B base : Nat) (sel : Rule → List Pat) (rs : List Rule) (k N : Nat) (V : Nat → List UInt8 → Value) (L : Nat → List UInt8 → List Int) (wr : World) : Prop where
  ix : ∃ n, n ≤ N ∧ Ix wr B base n V L
  inv : Inv L sel rs k
  bel : Below w.heap.size w wr
  hB : w.heap.size ≤ B
theorem St.base_le {w wr : World} {B base k N : Nat} {sel : Rule → List Pat} {rs : List Rule} {V : Nat → List UInt8 → Value} {L : Nat → List UInt8 → List Int} (h : St w B base sel rs k N V L wr) : w.heap.size ≤ base := by
  obtain ⟨n, _, hi⟩ := h.ix
  have := hi.lo
  have := h.hB
  omega
theorem St.top {w wr : World} {B base k N : Nat} {sel : Rule → List Pat} {rs : List Rule} {V : Nat → List UInt8 → Value} {L : Nat → List UInt8 → List Int} (h : St w B base sel rs k N V L wr) : base ≤ wr.heap.size := by
  obtain ⟨n, _, hi⟩ := h.ix
  exact hi.hi
theorem St.own {w wr : World} {B base k N : Nat} {sel : Rule → List Pat} {rs : List Rule} {V : Nat → List UInt8 → Value} {L : Nat → List UInt8 → List Int} (h : St w B base sel rs k N V L wr) (m : Nat) (q : List UInt8) : wr.ownsRow base 3 1 (V m q) (L m q).length (ints (L m q)) := by
  obtain ⟨n, _, hi⟩ := h.ix
  exact hi.rows.own m q
theorem St.look {w wr : World} {B base k N : Nat} {sel : Rule → List Pat} {rs : List Rule} {V : Nat → List UInt8 → Value} {L : Nat → List UInt8 → List Int} (h : St w B base sel rs k N V L wr) {m : Nat} (hm : m < 3) {s : ByteArray} (hs : s.size ≤ maxLen) :
    (Instr.lookup 31 (.map (some (B + m))) (.string s) false).run Try.prog wr = .ok (V m s.data.toList) wr := by
  obtain ⟨n, _, hi⟩ := h.ix
  exact hi.look hm hs
theorem St.stepBel {w wr w1 : World} {B base k N m : Nat} {q : List UInt8} {sel : Rule → List Pat} {rs : List Rule} {V : Nat → List UInt8 → Value} {L : Nat → List UInt8 → List Int} {v' : Value} {l' : List Int} (h : St w B base sel rs k N V L wr) (hs : Step base wr w1 (V m q) v' l') : Below w.heap.size w w1 :=
  h.bel.grown hs.grown h.bel.size (fun g hg => Nat.le_trans h.base_le ((h.own m q).lt g hg).1)
theorem St.row {w wr w1 : World} {B base k N m : Nat} {q : List UInt8} {sel : Rule → List Pat} {rs : List Rule} {V : Nat → List UInt8 → Value} {L : Nat → List UInt8 → List Int} {v' : Value} {l' : List Int} (h : St w B base sel rs k N V L wr) (hm : 3 ≤ m) (hs : Step base wr w1 (V m q) v' l') (hne : l' ≠ []) (hi : Inv (upd L m q l') sel rs k) : St w B base sel rs k N (upd V m q v') (upd L m q l') w1 := by
  obtain ⟨n, hn, hx⟩ := h.ix
  exact ⟨⟨n, hn, hx.row hm hs hne⟩, hi, h.stepBel hs, h.hB⟩
theorem St.bucket {w wr w1 : World} {B base k N m : Nat} {s : ByteArray} {sel : Rule → List Pat} {rs : List Rule} {V : Nat → List UInt8 → Value} {L : Nat → List UInt8 → List Int} {v' : Value} {l' : List Int} (h : St w B base sel rs k N V L wr) (hm : m < 3) (hsz : s.size ≤ maxLen) (hN : N < 4194304) (hs : Step base wr w1 (V m s.data.toList) v' l') (hne : l' ≠ []) (hi : Inv (upd L m s.data.toList l') sel rs k) :
    ∃ w2, (Instr.mapUpdate 31 (.map (some (B + m))) (.string s) v').run Try.prog w1 = .ok () w2 ∧ St w B base sel rs k (N + 1) (upd V m s.data.toList v') (upd L m s.data.toList l') w2 := by
  obtain ⟨n, hn, hx⟩ := h.ix
  obtain ⟨w2, hrun, hx2, hg⟩ := hx.bucket hm hsz (by omega) hs hne
  have hb1 := h.stepBel hs
  refine ⟨w2, hrun, ⟨⟨n + 1, by omega, hx2⟩, hi, hb1.grown hg hb1.size (fun g hg => ?_), h.hB⟩⟩
  cases hg
  have := h.hB
  omega

/-- The part of an index that a map filed: the covering goes on. -/
def Cov (L : Nat → List UInt8 → List Int) (k : Nat) (ps : List Pat) (t : Nat) : Prop := ∀ (s : Nat) p, s < t → ps[s]? = some p → covP L k p
theorem Cov.next {L L' : Nat → List UInt8 → List Int} {k t : Nat} {ps : List Pat} {p : Pat} (h : Cov L k ps t) (hs : Sub L L') (hp : ps[t]? = some p) (hc : covP L' k p) : Cov L' k ps (t + 1) := by
  intro s q hlt hq
  by_cases e : s = t
  · subst e; rw [hp] at hq; cases hq; exact hc
  · exact (h s q (by omega) hq).sub hs
theorem Sub.trans {L L' L'' : Nat → List UInt8 → List Int} (h : Sub L L') (k : Sub L' L'') : Sub L L'' := fun m q x hx => k m q x (h m q x hx)
theorem sub_add (L : Nat → List UInt8 → List Int) (m : Nat) (q : List UInt8) (i : Int) : Sub L (upd L m q (addP (L m q) i)) := sub_upd (fun _ hx => sub_addP _ _ _ hx)
theorem sub_ins (L : Nat → List UInt8 → List Int) (m : Nat) (q : List UInt8) (i : Int) : Sub L (upd L m q (insL (L m q) i)) := sub_upd (fun _ hx => sub_insL _ _ _ hx)
theorem cov_one {L L' : Nat → List UInt8 → List Int} {k : Nat} {p : Pat} (hf : p.form = 1) (hs : Sub L L') (h1 : (k : Int) ∈ L 1 (pkey p)) (h2 : (p.text.size : Int) ∈ L' 3 []) : covP L' k p :=
  ⟨fun _ => ⟨hs _ _ _ h1, h2⟩, fun h => by omega, fun h => by omega, fun h => absurd hf h⟩
theorem cov_two {L L' : Nat → List UInt8 → List Int} {k : Nat} {p : Pat} (hf : p.form = 2) (hs : Sub L L') (h1 : (k : Int) ∈ L 2 (pkey p)) (h2 : (p.text.size : Int) ∈ L' 4 []) : covP L' k p :=
  ⟨fun h => by omega, fun _ => ⟨hs _ _ _ h1, h2⟩, fun h => by omega, fun _ h => absurd hf h⟩
theorem cov_three {L : Nat → List UInt8 → List Int} {k : Nat} {p : Pat} (hf : p.form = 3) (h1 : (k : Int) ∈ L 5 []) : covP L k p :=
  ⟨fun h => by omega, fun h => by omega, fun _ => h1, fun _ _ h => absurd hf h⟩
theorem cov_zero {L : Nat → List UInt8 → List Int} {k : Nat} {p : Pat} (hf : p.form ≠ 1 ∧ p.form ≠ 2 ∧ p.form ≠ 3) (h1 : (k : Int) ∈ L 0 (pkey p)) : covP L k p :=
  ⟨fun h => absurd h hf.1, fun h => absurd h hf.2.1, fun h => absurd h hf.2.2, fun _ _ _ => h1⟩
theorem mem_upd_add (L : Nat → List UInt8 → List Int) (m : Nat) (q : List UInt8) (i : Int) : i ∈ upd L m q (addP (L m q) i) m q := by rw [upd_same]; exact mem_addP _ _
theorem mem_upd_ins (L : Nat → List UInt8 → List Int) (m : Nat) (q : List UInt8) (i : Int) : i ∈ upd L m q (insL (L m q) i) m q := by rw [upd_same]; exact mem_insL _ _
theorem covR_of {L : Nat → List UInt8 → List Int} {sel : Rule → List Pat} {k t : Nat} {r : Rule} (h : Cov L k (sel r) t) (ht : (sel r).length ≤ t) (h0 : sel r ≠ []) : covR L sel k r :=
  ⟨fun e => absurd e h0, fun p hp => by
    obtain ⟨s, hs⟩ := List.getElem?_of_mem hp
    have := (List.getElem?_eq_some_iff.1 hs).1
    exact h s p (by omega) hs⟩
theorem covR_nil {L : Nat → List UInt8 → List Int} {sel : Rule → List Pat} {k : Nat} {r : Rule} (h0 : sel r = []) (h : (k : Int) ∈ L 6 []) : covR L sel k r :=
  ⟨fun _ => h, fun p hp => by rw [h0] at hp; simp at hp⟩
theorem addP_lt {l : List Int} {k : Int} (h : ∀ x ∈ l, x < k) : addP l k = l ++ [k] := by
  unfold addP
  rw [if_neg]
  intro e
  have := h k (List.mem_of_getLast? e)
  omega
theorem St.more {w wr : World} {B base k N N' : Nat} {sel : Rule → List Pat} {rs : List Rule} {V : Nat → List UInt8 → Value} {L : Nat → List UInt8 → List Int} (h : St w B base sel rs k N V L wr) (hN : N ≤ N') : St w B base sel rs k N' V L wr := by
  obtain ⟨n, hn, hx⟩ := h.ix
  exact ⟨⟨n, Nat.le_trans hn hN, hx⟩, h.inv, h.bel, h.hB⟩
theorem St.next {w wr : World} {B base k N : Nat} {sel : Rule → List Pat} {rs : List Rule} {r : Rule} {V : Nat → List UInt8 → Value} {L : Nat → List UInt8 → List Int} (h : St w B base sel rs k N V L wr) (hr : rs[k]? = some r) (hc : covR L sel k r) : St w B base sel rs (k + 1) N V L wr :=
  ⟨h.ix, inv_next h.inv hr hc, h.bel, h.hB⟩
theorem St.six {w wr : World} {B base k N : Nat} {sel : Rule → List Pat} {rs : List Rule} {V : Nat → List UInt8 → Value} {L : Nat → List UInt8 → List Int} (h : St w B base sel rs k N V L wr) : ∀ x ∈ L 6 [], x < ((k + 1 : Nat) : Int) := fun x hx => by
  have := ((h.inv.rng 6 [] x hx).2.2 (by omega) (by omega)).1
  omega

/-- What filing leaves behind. -/
def Done (w : World) (sel : Rule → List Pat) (rs : List Rule) (v : Value) (w' : World) : Prop :=
  ∃ B base n V L, v = .agg #[.map (some B), .map (some (B + 1)), .map (some (B + 2)), V 3 [], V 4 [], V 5 [], V 6 []] ∧ Ix w' B base n V L ∧ Inv L sel rs rs.length ∧ w.heap.size ≤ B

theorem st_start (w : World) (sel : Rule → List Pat) (rs : List Rule) : St w w.heap.size (w.heap.size + 3) sel rs 0 0 (fun _ _ => .slice none 0 0) (fun _ _ => []) (((w.alloc (.map #[] 0)).alloc (.map #[] 0)).alloc (.map #[] 0)) := by
  have hs : (((w.alloc (.map #[] 0)).alloc (.map #[] 0)).alloc (.map #[] 0)).heap.size = w.heap.size + 3 := by simp
  have e : ∀ m, bkt (fun _ _ => Value.slice none 0 0) (fun _ _ => []) m = fun _ => none := fun m => by funext s; simp [bkt]
  refine ⟨⟨0, Nat.le_refl _, ⟨⟨fun m q => by exact World.ownsRow_nil _ _ _ _, fun m k m' k' _ => .inl rfl⟩, fun _ _ _ => rfl, fun m hm => ?_, by omega, by omega⟩⟩, inv_start sel rs, ?_, by omega⟩
  · rw [e]
    rcases m with _ | _ | _ | m
    · have := mapF_made w
      exact (this.kept (World.grownBy_alloc _ _ none) (by simp)).kept (World.grownBy_alloc _ _ none) (by simp)
    · have := mapF_made (w.alloc (.map #[] 0))
      simp only [World.size_alloc] at this
      exact this.kept (World.grownBy_alloc _ _ none) (by simp)
    · have := mapF_made ((w.alloc (.map #[] 0)).alloc (.map #[] 0))
      simp only [World.size_alloc] at this
      exact this
    · omega
  · have h1 : Below w.heap.size w (w.alloc (.map #[] 0)) := (Below.refl _ _).alloc (Nat.le_refl _) _
    have h2 := h1.alloc (o := .map #[] 0) (by simp)
    exact h2.alloc (o := .map #[] 0) (by simp; omega)
end Go.Proofs.Qxb6627205a
