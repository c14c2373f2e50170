import Derived.Test.Qxb6627205aProg
import Derived.WalkKit
import Derived.Deep.AppendLies
import Derived.Maps.AppendAt
import Derived.Deep.QuietTactic
import Derived.BigQuiet
import Derived.Deep.LoopGhost
namespace Go.Proofs.Qxb6627205a
open Go.RowKit

/-- A pattern: its form and its text. -/
structure Pat where
  form : Int
  text : ByteArray
/-- A rule. -/
structure Rule where
  name : ByteArray
  pr : List Pat
  pa : List Pat

/-- One pattern lies at o. -/
def P1 (w : World) (b o : Nat) (p : Pat) : Prop :=
  w.cell? ⟨b, o, none⟩ = some (.int .u8 p.form) ∧ w.cell? ⟨b, o + 1, none⟩ = some (.string p.text) ∧ 0 ≤ p.form ∧ p.form ≤ 255 ∧ p.text.size ≤ maxLen
def Ps (w : World) (a : Option Addr) (ps : List Pat) : Prop :=
  ps = [] ∨ ∃ b o, a = some ⟨b, o, none⟩ ∧ ∀ (k : Nat) p, ps[k]? = some p → P1 w b (o + k * 2) p
def R1 (w : World) (b o : Nat) (r : Rule) : Prop :=
  ∃ A1 C1 A2 C2, w.cell? ⟨b, o, none⟩ = some (.string r.name) ∧ w.cell? ⟨b, o + 1, none⟩ = some (.slice A1 r.pr.length C1) ∧ w.cell? ⟨b, o + 2, none⟩ = some (.slice A2 r.pa.length C2) ∧
    Ps w A1 r.pr ∧ Ps w A2 r.pa ∧ r.name.size ≤ maxLen ∧ r.pr.length ≤ maxLen ∧ r.pa.length ≤ maxLen
def Rl (w : World) (a : Option Addr) (rs : List Rule) : Prop :=
  rs = [] ∨ ∃ b o, a = some ⟨b, o, none⟩ ∧ ∀ (k : Nat) r, rs[k]? = some r → R1 w b (o + k * 3) r
def Ss (w : World) (a : Option Addr) (ss : List ByteArray) : Prop :=
  ss = [] ∨ ∃ b o, a = some ⟨b, o, none⟩ ∧ ∀ (k : Nat) s, ss[k]? = some s → w.cell? ⟨b, o + k, none⟩ = some (.string s) ∧ s.size ≤ maxLen

theorem P1.below {w w' : World} {b o : Nat} {p : Pat} (h : P1 w b o p) (hb : Below w.heap.size w w') : P1 w' b o p :=
  ⟨(hb.cell (block_lt_of_cell h.1)).trans h.1, (hb.cell (block_lt_of_cell h.2.1)).trans h.2.1, h.2.2⟩
theorem Ps.below {w w' : World} {a : Option Addr} {ps : List Pat} (h : Ps w a ps) (hb : Below w.heap.size w w') : Ps w' a ps := by
  rcases h with h | ⟨b, o, h1, h2⟩
  · exact .inl h
  · exact .inr ⟨b, o, h1, fun k p hp => (h2 k p hp).below hb⟩
theorem R1.below {w w' : World} {b o : Nat} {r : Rule} (h : R1 w b o r) (hb : Below w.heap.size w w') : R1 w' b o r := by
  obtain ⟨A1, C1, A2, C2, h1, h2, h3, h4, h5, h6⟩ := h
  exact ⟨A1, C1, A2, C2, (hb.cell (block_lt_of_cell h1)).trans h1, (hb.cell (block_lt_of_cell h2)).trans h2, (hb.cell (block_lt_of_cell h3)).trans h3, h4.below hb, h5.below hb, h6⟩
theorem Rl.below {w w' : World} {a : Option Addr} {rs : List Rule} (h : Rl w a rs) (hb : Below w.heap.size w w') : Rl w' a rs := by
  rcases h with h | ⟨b, o, h1, h2⟩
  · exact .inl h
  · exact .inr ⟨b, o, h1, fun k p hp => (h2 k p hp).below hb⟩
theorem Ss.below {w w' : World} {a : Option Addr} {ss : List ByteArray} (h : Ss w a ss) (hb : Below w.heap.size w w') : Ss w' a ss := by
  rcases h with h | ⟨b, o, h1, h2⟩
  · exact .inl h
  · exact .inr ⟨b, o, h1, fun k p hp => ⟨(hb.cell (block_lt_of_cell (h2 k p hp).1)).trans (h2 k p hp).1, (h2 k p hp).2⟩⟩

/-! The plain meaning. -/
def patOK (p : Pat) (v : ByteArray) : Bool :=
  if p.form = 3 then !v.toList.isEmpty
  else if p.form = 1 then decide (p.text.size ≤ v.size) && ((v.extract 0 p.text.size).toList == p.text.toList)
  else if p.form = 2 then decide (p.text.size ≤ v.size) && ((v.extract (v.size - p.text.size) v.size).toList == p.text.toList)
  else v.toList == p.text.toList
theorem patOK3 {p : Pat} {v : ByteArray} (h : p.form = 3) : patOK p v = !v.toList.isEmpty := by simp [patOK, h]
theorem patOK1 {p : Pat} {v : ByteArray} (h : p.form = 1) : patOK p v = (decide (p.text.size ≤ v.size) && ((v.extract 0 p.text.size).toList == p.text.toList)) := by simp [patOK, h]
theorem patOK2 {p : Pat} {v : ByteArray} (h : p.form = 2) : patOK p v = (decide (p.text.size ≤ v.size) && ((v.extract (v.size - p.text.size) v.size).toList == p.text.toList)) := by simp [patOK, h]
theorem patOK0 {p : Pat} {v : ByteArray} (h : p.form ≠ 1 ∧ p.form ≠ 2 ∧ p.form ≠ 3) : patOK p v = (v.toList == p.text.toList) := by simp [patOK, h.1, h.2.1, h.2.2]
def someOK (ps : List Pat) (vs : List ByteArray) : Bool := ps.isEmpty || ps.any (fun p => vs.any (patOK p))
def ruleOK (vs : List ByteArray) (m : ByteArray) (r : Rule) : Bool := someOK r.pr vs && someOK r.pa [m]
def verdict (deny allow : List Rule) (vs : List ByteArray) (m : ByteArray) : Bool × ByteArray :=
  match deny.find? (ruleOK vs m) with
  | some r => (false, r.name)
  | none =>
    match allow.find? (ruleOK vs m) with
    | some r => (true, r.name)
    | none => (false, ByteArray.empty)

/-! What the guard counts. -/
def costP : List Pat → Nat
  | [] => 0
  | p :: ps => 24 + p.text.size + costP ps
def costS : List ByteArray → Nat
  | [] => 0
  | s :: ss => 16 + s.size + costS ss
def costR1 (r : Rule) : Nat := 64 + r.name.size + costP r.pr + costP r.pa
def costR : List Rule → Nat
  | [] => 0
  | r :: rs => costR1 r + costR rs
theorem costP_take (ps : List Pat) (k : Nat) (p : Pat) (h : ps[k]? = some p) : costP (ps.take (k + 1)) = costP (ps.take k) + (24 + p.text.size) := by
  induction ps generalizing k with
  | nil => simp at h
  | cons q ps ih =>
    cases k with
    | zero => simp at h; subst h; simp [costP]
    | succ k => have := ih k (by simpa using h); simp only [List.take_succ_cons, costP]; omega
theorem costS_take (ss : List ByteArray) (k : Nat) (s : ByteArray) (h : ss[k]? = some s) : costS (ss.take (k + 1)) = costS (ss.take k) + (16 + s.size) := by
  induction ss generalizing k with
  | nil => simp at h
  | cons q ps ih =>
    cases k with
    | zero => simp at h; subst h; simp [costS]
    | succ k => have := ih k (by simpa using h); simp only [List.take_succ_cons, costS]; omega
theorem costR_take (rs : List Rule) (k : Nat) (r : Rule) (h : rs[k]? = some r) : costR (rs.take (k + 1)) = costR (rs.take k) + costR1 r := by
  induction rs generalizing k with
  | nil => simp at h
  | cons q ps ih =>
    cases k with
    | zero => simp at h; subst h; simp [costR]
    | succ k => have := ih k (by simpa using h); simp only [List.take_succ_cons, costR]; omega
theorem ret_int {k : IntKind} {a b : Int} (h : a = b) : Ending.returned (.int k a) = .returned (.int k b) := by rw [h]
theorem ret_bool {a b : Bool} (h : a = b) : Ending.returned (.bool a) = .returned (.bool b) := by rw [h]
end Go.Proofs.Qxb6627205a
