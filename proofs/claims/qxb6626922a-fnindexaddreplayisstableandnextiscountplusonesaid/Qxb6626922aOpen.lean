import Derived.Test.Qxb6626922aRows
import Derived.Test.Qxb6626922aSeen
import Derived.OpenShut
import Derived.ChangeOld
import Derived.Deep.Slices
namespace Go.Proofs.Qxb6626922a
open Go.ChangeShapes Go.WideShapes Go.ChangeAt Go.RowKit Go.Deep

theorem Try.own : ownKnob Try.prog.godebug = none := by kernel_rfl

theorem dig_of_trod {H : Type} {enc : TypeId × Value → H} {w : World} {base : Nat} {sp : Nat → Bool} {held : Bool} {fuel : Nat} {cs : List Value} {x : DataW H × List MemPlace}
    (h : DataW.trod enc Try.prog w base sp held fuel 26 cs = some x) : Dig cs := by
  obtain ⟨xs, m, _, _, hl, hn, hx⟩ := DataW.trod_array Try.underlying26 h
  rw [Try.cells26] at hl
  refine ⟨hl, fun v hv => ?_⟩
  obtain ⟨i, hi, rfl⟩ := List.getElem_of_mem hv
  have h1 := hx i (by omega)
  rw [List.getElem?_eq_getElem (by omega), Try.cells5, Nat.mul_one, List.drop_eq_getElem_cons hi] at h1
  simp only [List.take_succ_cons, List.take_zero] at h1
  obtain ⟨n, hc, _, hw⟩ := DataW.trod_int Try.underlying5 h1
  simp at hc
  exact ⟨n, hc, hw⟩

theorem open_ds {H : Type} {enc : TypeId × Value → H} {w : World} {held : Bool} {fuel : Nat} {a : Option Addr} {len cap : Nat} {x : DataW H × List MemPlace}
    (h : DataW.trod enc Try.prog w 0 (fun _ => true) held fuel 22 [.slice a len cap] = some x) : ∃ ds : List (List Value), ds.length = len ∧ Ds w a ds ∧ len ≤ maxLen := by
  rcases open_slice Try.underlying22 h with ⟨hcs, _⟩ | ⟨ad, len', cap', m, n, D, Pl, hcs, _, hl, hm, hmm, _, hx⟩
  · simp at hcs
    obtain ⟨rfl, rfl, rfl⟩ := hcs
    exact ⟨[], rfl, .inl rfl, Nat.zero_le _⟩
  · simp at hcs
    obtain ⟨rfl, rfl, rfl⟩ := hcs
    simp only [if_true] at hmm
    subst hmm
    rw [Try.cells26] at hx
    obtain ⟨f, hf⟩ := choose_lt (α := List Value) (p := fun i cs => w.cells? 0 (ad.add (i * 32)) 32 = some cs ∧ DataW.trod enc Try.prog w 0 (fun _ => true) held n 26 cs = some (D i, Pl i)) hx
    refine ⟨(List.range len).map f, by simp, ?_, Nat.le_trans hl hm⟩
    by_cases h0 : len = 0
    · subst h0; exact .inl (by simp)
    obtain ⟨b, o, spot⟩ := ad
    have hsp : spot = none := by
      obtain ⟨h1, h2⟩ := hf 0 (by omega)
      obtain ⟨_, hlen, hc⟩ := World.cells?_some h1
      have h3 := hc 0 (by omega)
      rw [List.getElem?_eq_getElem (by omega)] at h3
      simpa [Addr.add] using World.cell?_spot h3
    subst hsp
    refine .inr ⟨b, o, rfl, fun k d hd => ?_⟩
    have hk : k < len := by
      have := (List.getElem?_eq_some_iff.1 hd).1
      simpa using this
    simp [hk] at hd
    subst hd
    obtain ⟨h1, h2⟩ := hf k (by omega)
    refine ⟨dig_of_trod h2, fun j v hv => ?_⟩
    obtain ⟨_, hlen, hc⟩ := World.cells?_some h1
    have hj := (List.getElem?_eq_some_iff.1 hv).1
    have h3 := hc j (by omega)
    rw [add_add, add_plain] at h3
    rw [Nat.add_assoc, h3]
    exact hv
end Go.Proofs.Qxb6626922a
