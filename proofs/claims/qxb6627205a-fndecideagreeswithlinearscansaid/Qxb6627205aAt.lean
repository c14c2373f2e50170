import Derived.Test.Qxb6627205aGuard
import Derived.Deep.RegionHeld3
import Derived.Deep.CutBlock
import Derived.Deep.CutRange
import Derived.Deep.DrawnRows
namespace Go.Proofs.Qxb6627205a
open Go.RowKit
theorem at_cell {w : World} {b : Nat} {c : Array Value} {t : TypeId} (h : w.heap[b]? = some (.cells c t)) (i : Nat) : w.cell? ⟨b, i, none⟩ = c[i]? := by simp [World.cell?, h]
theorem at_new (w : World) (o : Obj) : (w.alloc o).heap[w.heap.size]? = some o := by show (w.heap.push o)[w.heap.size]? = some o; simp
theorem at_rule {w : World} {a : Option Addr} {rs : List Rule} {k : Nat} (h : Rl w a rs) (hk : k < rs.length) : ∃ b o r, a = some ⟨b, o, none⟩ ∧ R1 w b (o + k * 3) r := by
  rcases h with h | ⟨b, o, h1, h2⟩
  · simp [h] at hk
  · exact ⟨b, o, rs[k], h1, h2 k _ (List.getElem?_eq_getElem hk)⟩
theorem at_pat {w : World} {a : Option Addr} {ps : List Pat} {k : Nat} (h : Ps w a ps) (hk : k < ps.length) : ∃ b o p, a = some ⟨b, o, none⟩ ∧ w.cell? ⟨b, o + k * 2 + 1, none⟩ = some (.string p) ∧ p.size ≤ maxLen := by
  rcases h with h | ⟨b, o, h1, h2⟩
  · simp [h] at hk
  · have := h2 k _ (List.getElem?_eq_getElem hk)
    exact ⟨b, o, _, h1, this.2.1, this.2.2.2.2⟩
theorem at_str {w : World} {a : Option Addr} {ss : List ByteArray} {k : Nat} (h : Ss w a ss) (hk : k < ss.length) : ∃ b o s, a = some ⟨b, o, none⟩ ∧ w.cell? ⟨b, o + k, none⟩ = some (.string s) ∧ s.size ≤ maxLen := by
  rcases h with h | ⟨b, o, h1, h2⟩
  · simp [h] at hk
  · have := h2 k _ (List.getElem?_eq_getElem hk)
    exact ⟨b, o, _, h1, this.1, this.2⟩

/-- The statements behind the k first ones of a body. -/
def tl13 : Code → Code
  | .seq _ d => d
  | c => c
def dropS : Nat → Code → Code
  | 0, c => c
  | n + 1, c => dropS n (tl13 c)
def codeOf (f : Func) : Code := f.body.getD .skip
theorem wp_drop {P : Program} {Q : Exit → Act → World → Prop} {a : Act} {w : World} {f : Func} {c : Code} (k : Nat) (hb : f.body = some c) (h : (dropS k c).wp P Q a w) : (dropS k (codeOf f)).wp P Q a w := by
  unfold codeOf
  rw [hb]
  exact h
end Go.Proofs.Qxb6627205a
