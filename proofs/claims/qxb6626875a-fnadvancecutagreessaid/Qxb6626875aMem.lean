/- What a slice of bytes, and a slice of such slices, hold in memory. -/
import Derived.Test.Qxb6626875aProg
import Derived.WalkKit
import Derived.Deep.AppendLies
import Derived.Maps.AppendAt
namespace Go.Proofs.Qxb6626875a
open Go.RowKit

/-- Part k of a list of parts. -/
def part (ps : List (List Int)) (k : Nat) : List Int := ps.getD k []
/-- The number of bytes of all parts. -/
def tot : List (List Int) → Nat
  | [] => 0
  | p :: ps => p.length + tot ps

/-- The bytes l lie at a (an empty list: anywhere). -/
def Bs (w : World) (a : Option Addr) (l : List Int) : Prop :=
  l = [] ∨ ∃ b o, a = some ⟨b, o, none⟩ ∧ ∀ j, j < l.length → w.cell? ⟨b, o + j, none⟩ = some (.int .u8 (l.getD j 0))

/-- One cell holds the slice of bytes l. -/
def Cl (w : World) (x : Addr) (l : List Int) : Prop :=
  ∃ A C, w.cell? x = some (.slice A l.length C) ∧ l.length ≤ C ∧ C ≤ maxLen ∧ (A = none → C = 0) ∧ Bs w A l

/-- The parts ps lie at a. -/
def Pt (w : World) (a : Option Addr) (ps : List (List Int)) : Prop :=
  ps = [] ∨ ∃ b o, a = some ⟨b, o, none⟩ ∧ ∀ k, k < ps.length → Cl w ⟨b, o + k, none⟩ (part ps k)

theorem tot_take_succ (ps : List (List Int)) (k : Nat) (h : k < ps.length) : tot (ps.take (k + 1)) = tot (ps.take k) + (part ps k).length := by
  induction ps generalizing k with
  | nil => simp at h
  | cons p ps ih =>
    cases k with
    | zero => simp [tot, part]
    | succ k =>
      have := ih k (by simpa using h)
      simp only [List.take_succ_cons, tot, part, List.getD_cons_succ] at *
      omega
theorem tot_take_le (ps : List (List Int)) (k : Nat) : tot (ps.take k) ≤ tot ps := by
  induction ps generalizing k with
  | nil => simp [tot]
  | cons p ps ih =>
    cases k with
    | zero => simp [tot]
    | succ k => have := ih k; simp only [List.take_succ_cons, tot]; omega
theorem part_le_tot (ps : List (List Int)) (k : Nat) (h : k < ps.length) : (part ps k).length ≤ tot ps := by
  have h1 := tot_take_succ ps k h
  have h2 := tot_take_le ps (k + 1)
  omega

/-- Two tests that the guard makes. -/
def okB (ps : List (List Int)) : Bool := decide (ps.length + tot ps ≤ 1048576)
def szB (ps : List (List Int)) : Bool := decide (ps.length ≤ 65536 ∧ 8 * ps.length + tot ps ≤ 1048576)
end Go.Proofs.Qxb6626875a
