import Derived.Test.Qxb6627205aIns
import Derived.Maps.OwnSet
namespace Go.Proofs.Qxb6627205a
open Go.RowKit Go.Maps

theorem Try.law9 : Keyed Try.prog 9 := string_keyed Try.underlying9
theorem zero32 (w : World) : (zeroValue 32).run Try.prog w = .ok (.slice none 0 0) w := by kernel_rfl
/-- An element is told as it stands. -/
def hold (v : Value) : Option (DataW Value × List MemPlace) := some (.held v, [])
def skey (s : ByteArray) : Lit := .string s.data.toList
theorem skey_of (s : ByteArray) (h : s.size ≤ maxLen) : keyOf Try.prog 9 (.string s) = some (skey s) := Go.WideMaps.keyOf_string_mk Try.underlying9 h
theorem skey_inj {s t : ByteArray} (h : skey s = skey t) : s = t := WideShapes.bytes_inj (by simpa [skey] using h)

/-- Block b is a map that holds f. -/
def MapF (w : World) (b n : Nat) (f : ByteArray → Option Value) : Prop :=
  ∃ D : DataW Value, w.ownsMap Try.prog 9 hold b n D ∧ ∀ s : ByteArray, s.size ≤ maxLen → Maps.has D (skey s) = (f s).isSome ∧ ∀ v, f s = some v → ∀ z, D.atKey (skey s) z = .held v

theorem mapF_made (w : World) : MapF (w.alloc (.map #[] 0)) w.heap.size 0 (fun _ => none) :=
  ⟨.map [], World.ownsMap_made w Try.prog 9 hold, fun s _ => ⟨rfl, fun v h => by cases h⟩⟩
theorem MapF.kept {w w' : World} {b n : Nat} {f : ByteArray → Option Value} {row : Option Nat} (h : MapF w b n f) (hg : w.grownBy w' row) (hne : some b ≠ row) : MapF w' b n f := by
  obtain ⟨D, h1, r⟩ := h
  exact ⟨D, h1.kept hg hne, r⟩
theorem MapF.lt {w : World} {b n : Nat} {f : ByteArray → Option Value} (h : MapF w b n f) : b < w.heap.size := by
  obtain ⟨D, h1, _⟩ := h
  exact h1.lt
theorem MapF.mono {w : World} {b n n' : Nat} {f : ByteArray → Option Value} (h : MapF w b n f) (hn : n ≤ n') : MapF w b n' f := by
  obtain ⟨D, h1, r⟩ := h
  exact ⟨D, h1.mono hn, r⟩
theorem MapF.look {w : World} {b n : Nat} {f : ByteArray → Option Value} (h : MapF w b n f) {s : ByteArray} (hs : s.size ≤ maxLen) :
    (Instr.lookup 31 (.map (some b)) (.string s) false).run Try.prog w = .ok ((f s).getD (.slice none 0 0)) w := by
  obtain ⟨D, h1, h2⟩ := h
  obtain ⟨v, ps, hrun, hR⟩ := h1.lookup Try.law9 Try.underlying31 (zero32 w) (zd := .held (.slice none 0 0)) (zp := []) rfl (skey_of s hs)
  obtain ⟨q1, q2⟩ := h2 s hs
  rw [hrun]
  congr 1
  simp only [hold, Option.some.injEq, Prod.mk.injEq] at hR
  cases hf : f s with
  | none =>
    rw [hf] at q1
    rw [Maps.atKey_of_not_has q1] at hR
    have := hR.1
    injection this
  | some u =>
    rw [q2 u hf] at hR
    have := hR.1
    injection this
theorem MapF.store {w : World} {b n : Nat} {f : ByteArray → Option Value} (h : MapF w b n f) {s : ByteArray} (hs : s.size ≤ maxLen) (v : Value) (hn : n < 4194304) :
    ∃ w', (Instr.mapUpdate 31 (.map (some b)) (.string s) v).run Try.prog w = .ok () w' ∧ MapF w' b (n + 1) (fun t => if t.data.toList = s.data.toList then some v else f t) ∧ w.grownBy w' (some b) := by
  obtain ⟨D, h1, h2⟩ := h
  obtain ⟨w', hrun, hown, hturn⟩ := h1.store Try.law9 Try.underlying31 (by unfold maxLen; omega) (skey_of s hs) (d := .held v) (ps := []) (val := v) rfl
  have hlit := Try.law9.key (skey_of s hs)
  refine ⟨w', hrun, ⟨_, hown, fun t ht => ?_⟩, hturn.grown⟩
  by_cases e : t.data.toList = s.data.toList
  · have ek : skey t = skey s := by simp [skey, e]
    rw [ek, Maps.has_put_same h1.isMap hlit]
    simp only [e, if_true]
    refine ⟨rfl, fun u hu z => ?_⟩
    rw [Maps.atKey_put_same h1.isMap hlit]
    cases hu
    rfl
  · have hne : skey t ≠ skey s := fun h => e (by simpa [skey] using h)
    rw [Maps.has_put_other hne]
    simp only [e, if_false]
    refine ⟨(h2 t ht).1, fun u hu z => ?_⟩
    rw [Maps.atKey_put_other hne]
    exact (h2 t ht).2 u hu z
end Go.Proofs.Qxb6627205a
