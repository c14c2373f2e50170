import Derived.Test.Qxb6627205aBkt
namespace Go.Proofs.Qxb6627205a
open Go.RowKit Go.Maps

/-- The buckets by their names. -/
def vals (V : Nat → List UInt8 → Value) (ns : List (Nat × List UInt8)) : List Value := ns.map fun x => V x.1 x.2
def Hit (L : Nat → List UInt8 → List Int) (ns : List (Nat × List UInt8)) (m : Nat) (q : List UInt8) : Prop := L m q = [] ∨ (m, q) ∈ ns
def Snd (ns : List (Nat × List UInt8)) : Prop := ∀ x ∈ ns, x.1 ≠ 3 ∧ x.1 ≠ 4
def Ext (ns ns' : List (Nat × List UInt8)) : Prop := ∀ x ∈ ns, x ∈ ns'
theorem Hit.ext {L : Nat → List UInt8 → List Int} {ns ns' : List (Nat × List UInt8)} {m : Nat} {q : List UInt8} (h : Hit L ns m q) (he : Ext ns ns') : Hit L ns' m q := h.elim .inl (fun h => .inr (he _ h))
theorem Hit.mem {L : Nat → List UInt8 → List Int} {ns : List (Nat × List UInt8)} {m : Nat} {q : List UInt8} {x : Int} (h : Hit L ns m q) (hx : x ∈ L m q) : (m, q) ∈ ns := by
  rcases h with h | h
  · rw [h] at hx; simp at hx
  · exact h

/-- What is seen while values are looked up: value v is filed in full. -/
def Seen (L : Nat → List UInt8 → List Int) (ns : List (Nat × List UInt8)) (v : ByteArray) : Prop :=
  Hit L ns 0 v.data.toList ∧ (∀ n : Nat, (n : Int) ∈ L 3 [] → n ≤ v.size → Hit L ns 1 (v.extract 0 n).data.toList) ∧ (∀ n : Nat, (n : Int) ∈ L 4 [] → n ≤ v.size → Hit L ns 2 (v.extract (v.size - n) v.size).data.toList)
theorem Seen.ext {L : Nat → List UInt8 → List Int} {ns ns' : List (Nat × List UInt8)} {v : ByteArray} (h : Seen L ns v) (he : Ext ns ns') : Seen L ns' v :=
  ⟨h.1.ext he, fun n h1 h2 => (h.2.1 n h1 h2).ext he, fun n h1 h2 => (h.2.2 n h1 h2).ext he⟩

/-- The names find every rule that may match. -/
def Covers (L : Nat → List UInt8 → List Int) (sel : Rule → List Pat) (rs : List Rule) (ss : List ByteArray) (ns : List (Nat × List UInt8)) : Prop :=
  ∀ (i : Nat) r, rs[i]? = some r → someOK (sel r) ss = true → ∃ x ∈ ns, (i : Int) ∈ L x.1 x.2

theorem toList_eq {a b : ByteArray} (h : (a.toList == b.toList) = true) : a.data.toList = b.data.toList := by
  have h1 : a.toList = b.toList := by simpa using h
  simpa [ByteArray.toList_eq] using h1

theorem covers_of {L : Nat → List UInt8 → List Int} {sel : Rule → List Pat} {rs : List Rule} {ss : List ByteArray} {ns : List (Nat × List UInt8)} (hinv : Inv L sel rs rs.length) (h6 : Hit L ns 6 []) (hs : ∀ (t : Nat) v, ss[t]? = some v → Seen L ns v) (h5 : (∃ v ∈ ss, v.toList.isEmpty = false) → Hit L ns 5 []) : Covers L sel rs ss ns := by
  intro i r hr hok
  have hlt := (List.getElem?_eq_some_iff.1 hr).1
  have hc := hinv.cov i r hlt hr
  by_cases h0 : sel r = []
  · exact ⟨(6, []), h6.mem (hc.1 h0), hc.1 h0⟩
  · have hne : (sel r).isEmpty = false := by simp [h0]
    rw [someOK, hne, Bool.false_or, List.any_eq_true] at hok
    obtain ⟨p, hp, hok⟩ := hok
    rw [List.any_eq_true] at hok
    obtain ⟨v, hv, hok⟩ := hok
    obtain ⟨t, ht⟩ := List.getElem?_of_mem hv
    have hseen := hs t v ht
    have hcp := hc.2 p hp
    by_cases e3 : p.form = 3
    · rw [patOK3 e3] at hok
      have hm := hcp.2.2.1 e3
      exact ⟨(5, []), (h5 ⟨v, hv, by simpa using hok⟩).mem hm, hm⟩
    by_cases e1 : p.form = 1
    · rw [patOK1 e1, Bool.and_eq_true] at hok
      have hm := hcp.1 e1
      have hle : p.text.size ≤ v.size := by simpa using hok.1
      have hh := hseen.2.1 p.text.size hm.2 hle
      rw [toList_eq hok.2] at hh
      exact ⟨(1, pkey p), hh.mem hm.1, hm.1⟩
    by_cases e2 : p.form = 2
    · rw [patOK2 e2, Bool.and_eq_true] at hok
      have hm := hcp.2.1 e2
      have hle : p.text.size ≤ v.size := by simpa using hok.1
      have hh := hseen.2.2 p.text.size hm.2 hle
      rw [toList_eq hok.2] at hh
      exact ⟨(2, pkey p), hh.mem hm.1, hm.1⟩
    · rw [patOK0 ⟨e1, e2, e3⟩] at hok
      have hm := hcp.2.2.2 e1 e2 e3
      have hh := hseen.1
      rw [toList_eq hok] at hh
      exact ⟨(0, pkey p), hh.mem hm, hm⟩

theorem Bk.grown {w0 w : World} {g0 : Nat} {v : Value} {vs : List Value} (h : Bk w0 g0 w v vs) : w0.grownBy w (some g0) := by
  obtain ⟨_, _, _, _, _, _, _, _, _, _, _, h⟩ := h
  exact h
theorem Bk.drew {w0 w : World} {g0 : Nat} {v : Value} {vs : List Value} (h : Bk w0 g0 w v vs) : Bk w0 g0 w.drew v vs := by
  obtain ⟨g, cap, cur, t, h1, h2, h3, h4, h5, h6, h7, h8⟩ := h
  exact ⟨g, cap, cur, t, h1, h2, h3, h4, h5, h6, h7, ⟨h8.os, h8.tape, h8.output, h8.size, h8.block⟩⟩

/-- What appending the bucket named (m, q) leaves. -/
def Got (w0 : World) (g0 : Nat) (V : Nat → List UInt8 → Value) (L : Nat → List UInt8 → List Int) (ns : List (Nat × List UInt8)) (m : Nat) (q : List UInt8) (w' : World) (v' : Value) (ns' : List (Nat × List UInt8)) : Prop :=
  Bk w0 g0 w' v' (vals V ns') ∧ Snd ns' ∧ Ext ns ns' ∧ Hit L ns' m q ∧ ns'.length ≤ ns.length + 1
theorem app34n (w0 w : World) (g0 base : Nat) (v : Value) (V : Nat → List UInt8 → Value) (L : Nat → List UInt8 → List Int) (ns : List (Nat × List UInt8)) (m : Nat) (q : List UInt8) (hm : m ≠ 3 ∧ m ≠ 4) (hown : w.ownsRow base 3 1 (V m q) (L m q).length (ints (L m q))) (hn : (L m q).length ≤ 4194304) (hB : Bk w0 g0 w v (vals V ns)) (hS : Snd ns) (hl : ns.length ≤ 4398046511105) :
    Calls Try.prog 34 #[v, V m q] w fun e w' => ∃ v' ns', e = .returned v' ∧ Got w0 g0 V L ns m q w' v' ns' := by
  obtain ⟨A, C, hV⟩ := own_slice hown
  have := app34 w0 w g0 v (vals V ns) A (L m q).length C hB (by simpa [vals] using hl) hn
  rw [← hV] at this
  refine this.mono ?_
  rintro e w' ⟨v', rfl, hb⟩
  by_cases h0 : (L m q).length = 0
  · rw [app, if_pos h0] at hb
    exact ⟨v', ns, rfl, hb, hS, fun _ h => h, .inl (List.eq_nil_of_length_eq_zero h0), by omega⟩
  · rw [app, if_neg h0] at hb
    refine ⟨v', ns ++ [(m, q)], rfl, by simpa [vals] using hb, ?_, fun x h => by simp [h], .inr (by simp), by simp⟩
    intro x hx
    simp at hx
    rcases hx with hx | rfl
    · exact hS x hx
    · exact hm
end Go.Proofs.Qxb6627205a
