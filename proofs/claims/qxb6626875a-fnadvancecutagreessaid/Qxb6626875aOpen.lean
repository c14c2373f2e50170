import Derived.Test.Qxb6626875aRows
import Derived.Test.Qxb6626875aMem
import Derived.WalkKit
import Derived.ProofKit
import Derived.ChangeOld
import Derived.Below
import Derived.Deep.Matrix
namespace Go.Proofs.Qxb6626875a
open Go.ChangeShapes Go.WideShapes Go.ChangeAt Go.RowKit Go.Deep

theorem Try.own : ownKnob Try.prog.godebug = none := by kernel_rfl
theorem Try.laidOut : laidOutB Try.prog = true := by kernel_rfl
theorem Try.cells27 : Try.prog.cellsOf 27 = 1 := by kernel_rfl
theorem Try.cells5 : Try.prog.cellsOf 5 = 1 := by kernel_rfl

/-- A slice of slices of bytes, as an argument reads: its parts. -/
theorem open_parts {H : Type} {enc : TypeId × Value → H} {w : World} {held : Bool} {fuel : Nat} {a : Option Addr} {len cap : Nat} {x : DataW H × List MemPlace}
    (h : DataW.trod enc Try.prog w 0 (fun _ => true) held fuel 22 [.slice a len cap] = some x) : ∃ ps : List (List Int), ps.length = len ∧ Pt w a ps ∧ len ≤ maxLen ∧ (a = none → cap = 0) := by
  rcases open_int_rows Try.underlying22 Try.underlying27 Try.underlying5 Try.cells27 Try.cells5 h with ⟨hcs, _⟩ | ⟨ad, len', cap', A, L, C, Z, hcs, _, hl, hm, _, hr⟩
  · simp at hcs
    obtain ⟨rfl, rfl, rfl⟩ := hcs
    exact ⟨[], rfl, .inl rfl, Nat.zero_le _, fun _ => rfl⟩
  · simp at hcs
    obtain ⟨rfl, rfl, rfl⟩ := hcs
    refine ⟨(List.range len).map fun r => (Z r).take (L r), by simp, ?_, Nat.le_trans hl hm, by simp⟩
    by_cases h0 : len = 0
    · subst h0; exact .inl (by simp)
    · obtain ⟨b, o, spot⟩ := ad
      have hsp : spot = none := by simpa [Addr.add] using World.cell?_spot (hr 0 (by omega)).1
      subst hsp
      refine .inr ⟨b, o, rfl, fun k hk => ?_⟩
      simp at hk
      obtain ⟨hc, r1, r2, r3, _, r5, r6⟩ := hr k (by omega)
      have e1 : part ((List.range len).map fun r => (Z r).take (L r)) k = (Z k).take (L k) := by simp [part, hk]
      have e2 : ((Z k).take (L k)).length = L k := by simp; omega
      rw [e1]
      refine ⟨A k, C k, by rw [e2, ← add_plain]; exact hc, by omega, r2, r5, ?_⟩
      cases hA : A k with
      | none => have := r5 hA; exact .inl (List.eq_nil_of_length_eq_zero (by omega))
      | some a' =>
        obtain ⟨_, hcell⟩ := r6 a' hA
        by_cases hL : L k = 0
        · exact .inl (List.eq_nil_of_length_eq_zero (by omega))
        obtain ⟨b', o', spot'⟩ := a'
        have hsp : spot' = none := by simpa [Addr.add] using World.cell?_spot (hcell 0 (by omega))
        subst hsp
        refine .inr ⟨b', o', rfl, fun j hj => ?_⟩
        rw [e2] at hj
        rw [← add_plain, hcell j (by omega)]
        simp [List.getD, hj]
end Go.Proofs.Qxb6626875a
