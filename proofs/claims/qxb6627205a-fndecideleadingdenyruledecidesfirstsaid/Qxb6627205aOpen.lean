import Derived.Test.Qxb6627205aRows
import Derived.Test.Qxb6627205aMem
import Derived.OpenShut
import Derived.ChangeOld
import Derived.Carry
import Derived.Deep.Slices
import Derived.Deep.SlicePairs
import Derived.Deep.Strs
namespace Go.Proofs.Qxb6627205a
open Go.ChangeShapes Go.WideShapes Go.RowKit Go.Deep

theorem Try.own : ownKnob Try.prog.godebug = none := by kernel_rfl
theorem Try.cells51 : Try.prog.cellsOf 51 = 2 := by kernel_rfl
theorem Try.cells45 : Try.prog.cellsOf 45 = 3 := by kernel_rfl
theorem Try.cells9 : Try.prog.cellsOf 9 = 1 := by kernel_rfl
theorem Try.cells5 : Try.prog.cellsOf 5 = 1 := by kernel_rfl
theorem Try.cells43 : Try.prog.cellsOf 43 = 1 := by kernel_rfl

/-- A list of what is there at each place. -/
theorem list_of {α : Type} (n : Nat) (p : Nat → α → Prop) (h : ∀ i, i < n → ∃ a, p i a) : ∃ l : List α, l.length = n ∧ ∀ (k : Nat) a, l[k]? = some a → p k a := by
  induction n with
  | zero => exact ⟨[], rfl, fun k a h => by simp at h⟩
  | succ n ih =>
    obtain ⟨l, hl, hp⟩ := ih (fun i hi => h i (by omega))
    obtain ⟨a, ha⟩ := h n (by omega)
    refine ⟨l ++ [a], by simp [hl], fun k b hb => ?_⟩
    by_cases e : k < l.length
    · rw [List.getElem?_append_left e] at hb; exact hp k b hb
    · rw [List.getElem?_append_right (by omega)] at hb
      have : k - l.length = 0 := by
        have := (List.getElem?_eq_some_iff.1 hb).1
        simp at this; omega
      rw [this] at hb
      simp at hb
      subst hb
      rw [show k = n by omega]; exact ha

theorem open_pats {H : Type} {enc : TypeId × Value → H} {w : World} {held : Bool} {fuel : Nat} {v : Value} {x : DataW H × List MemPlace}
    (h : DataW.trod enc Try.prog w 0 (fun _ => true) held fuel 43 [v] = some x) : ∃ a ps cap, v = .slice a (ps : List Pat).length cap ∧ Ps w a ps ∧ ps.length ≤ maxLen := by
  rcases open_slice_pairs Try.underlying43 Try.underlying51 Try.cells51 rfl rfl Try.cells5 Try.cells9 h with ⟨hcs, _⟩ | ⟨ad, len, cap, m, n, V0, V1, D0, D1, P0, P1', hcs, _, hl, hm, hmm, _, hx⟩
  · simp at hcs
    subst hcs
    exact ⟨none, [], 0, rfl, .inl rfl, Nat.zero_le _⟩
  · simp at hcs
    subst hcs
    simp only [if_true] at hmm
    subst hmm
    obtain ⟨ps, hpl, hps⟩ := list_of (α := Pat) len (fun i p => w.cell? (ad.add (i * 2)) = some (.int .u8 p.form) ∧ w.cell? (ad.add (i * 2 + 1)) = some (.string p.text) ∧ 0 ≤ p.form ∧ p.form ≤ 255 ∧ p.text.size ≤ maxLen) (fun i hi => by
      obtain ⟨c0, c1, t0, t1⟩ := hx i (by omega)
      obtain ⟨f, hf, _, hw⟩ := DataW.trod_int Try.underlying5 t0
      obtain ⟨s, hs, _, hsz⟩ := DataW.trod_string Try.underlying9 t1
      simp at hf hs
      rw [hf] at c0
      rw [hs] at c1
      simp [Lit.wf, IntKind.min, IntKind.max, IntKind.signed, IntKind.bits] at hw
      exact ⟨⟨f, s⟩, c0, c1, hw.1, hw.2, hsz⟩)
    refine ⟨some ad, ps, _, by rw [hpl], ?_, by omega⟩
    by_cases h0 : len = 0
    · exact .inl (List.eq_nil_of_length_eq_zero (by omega))
    obtain ⟨b, o, spot⟩ := ad
    have hsp : spot = none := by
      obtain ⟨c0, _⟩ := hx 0 (by omega)
      simpa [Addr.add] using World.cell?_spot c0
    subst hsp
    refine .inr ⟨b, o, rfl, fun k p hp => ?_⟩
    obtain ⟨c0, c1, r⟩ := hps k p hp
    rw [add_plain] at c0 c1
    exact ⟨c0, by rw [Nat.add_assoc]; exact c1, r⟩

theorem open_strs {H : Type} {enc : TypeId × Value → H} {w : World} {held : Bool} {fuel : Nat} {v : Value} {x : DataW H × List MemPlace}
    (h : DataW.trod enc Try.prog w 0 (fun _ => true) held fuel 23 [v] = some x) : ∃ a ss cap, v = .slice a (ss : List ByteArray).length cap ∧ Ss w a ss ∧ ss.length ≤ maxLen := by
  rcases open_slice1 Try.underlying23 Try.cells9 h with ⟨hcs, _⟩ | ⟨ad, len, cap, m, n, V, D, Pl, hcs, _, hl, hm, hmm, _, hx⟩
  · simp at hcs
    subst hcs
    exact ⟨none, [], 0, rfl, .inl rfl, Nat.zero_le _⟩
  · simp at hcs
    subst hcs
    simp only [if_true] at hmm
    subst hmm
    obtain ⟨ss, hpl, hps⟩ := list_of (α := ByteArray) len (fun i s => w.cell? (ad.add i) = some (.string s) ∧ s.size ≤ maxLen) (fun i hi => by
      obtain ⟨c0, t0⟩ := hx i (by omega)
      obtain ⟨s, hs, _, hsz⟩ := DataW.trod_string Try.underlying9 t0
      simp at hs
      rw [hs] at c0
      exact ⟨s, c0, hsz⟩)
    refine ⟨some ad, ss, _, by rw [hpl], ?_, by omega⟩
    by_cases h0 : len = 0
    · exact .inl (List.eq_nil_of_length_eq_zero (by omega))
    obtain ⟨b, o, spot⟩ := ad
    have hsp : spot = none := by
      obtain ⟨c0, _⟩ := hx 0 (by omega)
      simpa [Addr.add] using World.cell?_spot c0
    subst hsp
    refine .inr ⟨b, o, rfl, fun k p hp => ?_⟩
    obtain ⟨c0, r⟩ := hps k p hp
    rw [add_plain] at c0
    exact ⟨c0, r⟩

/-- One rule by its three cells. -/
theorem open_rule {H : Type} {enc : TypeId × Value → H} {w : World} {held : Bool} {fuel : Nat} {cs : List Value} {x : DataW H × List MemPlace}
    (h : DataW.trod enc Try.prog w 0 (fun _ => true) held fuel 45 cs = some x) : ∃ (r : Rule) (A1 : Option Addr) (C1 : Nat) (A2 : Option Addr) (C2 : Nat), cs = [.string r.name, .slice A1 r.pr.length C1, .slice A2 r.pa.length C2] ∧ Ps w A1 r.pr ∧ Ps w A2 r.pa ∧ r.name.size ≤ maxLen ∧ r.pr.length ≤ maxLen ∧ r.pa.length ≤ maxLen := by
  obtain ⟨y0, y1, y2, n, _, hl, t0, t1, t2⟩ := trod_struct3 Try.underlying45 h
  rw [Try.cells45] at hl
  match cs, hl with
  | [v0, v1, v2], _ =>
    simp only [Try.cells9, Try.cells43, List.drop_zero, List.take_succ_cons, List.take_zero, List.drop_succ_cons] at t0 t1 t2
    obtain ⟨s, hs, _, hsz⟩ := DataW.trod_string Try.underlying9 t0
    obtain ⟨A1, p1, C1, rfl, h1, l1⟩ := open_pats t1
    obtain ⟨A2, p2, C2, rfl, h2, l2⟩ := open_pats t2
    simp at hs
    subst hs
    exact ⟨⟨s, p1, p2⟩, A1, C1, A2, C2, rfl, h1, h2, hsz, l1, l2⟩

theorem open_rules {H : Type} {enc : TypeId × Value → H} {w : World} {held : Bool} {fuel : Nat} {v : Value} {x : DataW H × List MemPlace}
    (h : DataW.trod enc Try.prog w 0 (fun _ => true) held fuel 22 [v] = some x) : ∃ a rs cap, v = .slice a (rs : List Rule).length cap ∧ Rl w a rs ∧ rs.length ≤ maxLen := by
  rcases open_slice Try.underlying22 h with ⟨hcs, _⟩ | ⟨ad, len, cap, m, n, D, Pl, hcs, _, hl, hm, hmm, _, hx⟩
  · simp at hcs
    subst hcs
    exact ⟨none, [], 0, rfl, .inl rfl, Nat.zero_le _⟩
  · simp at hcs
    subst hcs
    simp only [if_true] at hmm
    subst hmm
    rw [Try.cells45] at hx
    obtain ⟨rs, hpl, hps⟩ := list_of (α := Rule) len (fun i r => ∃ (A1 : Option Addr) (C1 : Nat) (A2 : Option Addr) (C2 : Nat), w.cells? 0 (ad.add (i * 3)) 3 = some [.string r.name, .slice A1 r.pr.length C1, .slice A2 r.pa.length C2] ∧ Ps w A1 r.pr ∧ Ps w A2 r.pa ∧ r.name.size ≤ maxLen ∧ r.pr.length ≤ maxLen ∧ r.pa.length ≤ maxLen) (fun i hi => by
      obtain ⟨cs', hc, ht⟩ := hx i (by omega)
      obtain ⟨r, A1, C1, A2, C2, rfl, hr⟩ := open_rule ht
      exact ⟨r, A1, C1, A2, C2, hc, hr⟩)
    refine ⟨some ad, rs, _, by rw [hpl], ?_, by omega⟩
    by_cases h0 : len = 0
    · exact .inl (List.eq_nil_of_length_eq_zero (by omega))
    obtain ⟨b, o, spot⟩ := ad
    have hsp : spot = none := by
      obtain ⟨cs', hc, _⟩ := hx 0 (by omega)
      obtain ⟨_, hlen, hcc⟩ := World.cells?_some hc
      have h3 := hcc 0 (by omega)
      rw [List.getElem?_eq_getElem (by omega)] at h3
      simpa [Addr.add] using World.cell?_spot h3
    subst hsp
    refine .inr ⟨b, o, rfl, fun k r hk => ?_⟩
    obtain ⟨A1, C1, A2, C2, hc, hr⟩ := hps k r hk
    obtain ⟨_, hlen, hcc⟩ := World.cells?_some hc
    have c0 := hcc 0 (by omega)
    have c1 := hcc 1 (by omega)
    have c2 := hcc 2 (by omega)
    rw [add_add, add_plain] at c0 c1 c2
    exact ⟨A1, C1, A2, C2, by simpa using c0, by rw [Nat.add_assoc]; simpa using c1, by rw [Nat.add_assoc]; simpa using c2, hr⟩
end Go.Proofs.Qxb6627205a
