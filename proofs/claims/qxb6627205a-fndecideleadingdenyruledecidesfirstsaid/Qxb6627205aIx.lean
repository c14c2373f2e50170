import Derived.Test.Qxb6627205aMap
namespace Go.Proofs.Qxb6627205a
open Go.RowKit Go.Maps

def upd {α : Type} (F : Nat → List UInt8 → α) (m : Nat) (k : List UInt8) (x : α) : Nat → List UInt8 → α := fun m' k' => if m' = m ∧ k' = k then x else F m' k'
theorem upd_same {α : Type} (F : Nat → List UInt8 → α) (m : Nat) (k : List UInt8) (x : α) : upd F m k x m k = x := by simp [upd]
theorem upd_other {α : Type} (F : Nat → List UInt8 → α) {m m' : Nat} {k k' : List UInt8} (x : α) (h : (m', k') ≠ (m, k)) : upd F m k x m' k' = F m' k' := by
  unfold upd
  rw [if_neg (fun e => h (by rw [e.1, e.2]))]

/-- The rows of an index: each its own block. -/
structure Rws (w : World) (base : Nat) (V : Nat → List UInt8 → Value) (L : Nat → List UInt8 → List Int) : Prop where
  own : ∀ m k, w.ownsRow base 3 1 (V m k) (L m k).length (ints (L m k))
  inj : ∀ m k m' k', (m, k) ≠ (m', k') → (V m k).ownBlock = none ∨ (V m k).ownBlock ≠ (V m' k').ownBlock

theorem Rws.step {w w' : World} {base m : Nat} {k : List UInt8} {V : Nat → List UInt8 → Value} {L : Nat → List UInt8 → List Int} {v' : Value} {l' : List Int} (h : Rws w base V L) (hs : Step base w w' (V m k) v' l') : Rws w' base (upd V m k v') (upd L m k l') := by
  have lt : ∀ m1 k1 g, (V m1 k1).ownBlock = some g → g < w.heap.size := fun m1 k1 g hg => ((h.own m1 k1).lt g hg).2
  refine ⟨fun m1 k1 => ?_, fun m1 k1 m2 k2 hne => ?_⟩
  · by_cases e : (m1, k1) = (m, k)
    · simp only [Prod.mk.injEq] at e
      obtain ⟨rfl, rfl⟩ := e
      rw [upd_same, upd_same]
      exact hs.own
    · rw [upd_other _ _ e, upd_other _ _ e]
      exact (h.own m1 k1).kept hs.grown (h.inj m1 k1 m k e)
  · by_cases e1 : (m1, k1) = (m, k)
    · have e2 : (m2, k2) ≠ (m, k) := fun e2 => hne (e1.trans e2.symm)
      simp only [Prod.mk.injEq] at e1
      obtain ⟨rfl, rfl⟩ := e1
      rw [upd_same, upd_other _ _ e2]
      rcases hs.blk with hb | ⟨g, hb, hg⟩
      · rw [hb]; exact h.inj _ _ _ _ hne
      · right
        rw [hb]
        intro e
        have := lt m2 k2 g e.symm
        omega
    · rw [upd_other _ _ e1]
      by_cases e2 : (m2, k2) = (m, k)
      · simp only [Prod.mk.injEq] at e2
        obtain ⟨rfl, rfl⟩ := e2
        rw [upd_same]
        rcases hs.blk with hb | ⟨g, hb, hg⟩
        · rw [hb]; exact h.inj _ _ _ _ hne
        · right
          rw [hb]
          intro e
          have := lt m1 k1 g e
          omega
      · rw [upd_other _ _ e2]
        exact h.inj _ _ _ _ hne
theorem Rws.kept {w w' : World} {base : Nat} {V : Nat → List UInt8 → Value} {L : Nat → List UInt8 → List Int} {row : Option Nat} (h : Rws w base V L) (hg : w.grownBy w' row) (hr : ∀ g, row = some g → g < base) : Rws w' base V L := by
  refine ⟨fun m k => (h.own m k).kept hg ?_, h.inj⟩
  cases hv : (V m k).ownBlock with
  | none => exact .inl rfl
  | some g =>
    right
    intro e
    have h1 := ((h.own m k).lt g hv).1
    have h2 := hr g e.symm
    omega

/-- What a map of buckets holds. -/
def bkt (V : Nat → List UInt8 → Value) (L : Nat → List UInt8 → List Int) (m : Nat) : ByteArray → Option Value := fun s => if L m s.data.toList = [] then none else some (V m s.data.toList)

/-- An index under construction: three maps from block B on, the rows from base on. -/
structure Ix (w : World) (B base n : Nat) (V : Nat → List UInt8 → Value) (L : Nat → List UInt8 → List Int) : Prop where
  rows : Rws w base V L
  nil : ∀ m k, L m k = [] → V m k = .slice none 0 0
  maps : ∀ m, m < 3 → MapF w (B + m) n (bkt V L m)
  lo : B + 3 ≤ base
  hi : base ≤ w.heap.size

theorem Ix.look {w : World} {B base n m : Nat} {V : Nat → List UInt8 → Value} {L : Nat → List UInt8 → List Int} (h : Ix w B base n V L) (hm : m < 3) {s : ByteArray} (hs : s.size ≤ maxLen) :
    (Instr.lookup 31 (.map (some (B + m))) (.string s) false).run Try.prog w = .ok (V m s.data.toList) w := by
  rw [(h.maps m hm).look hs]
  congr 1
  unfold bkt
  split
  · rename_i h0; rw [h.nil m _ h0]; rfl
  · rfl
theorem Ix.kept {w w' : World} {B base n : Nat} {V : Nat → List UInt8 → Value} {L : Nat → List UInt8 → List Int} (h : Ix w B base n V L) (hg : w.grownBy w' none) : Ix w' B base n V L :=
  ⟨h.rows.kept hg (fun g hg => by cases hg), h.nil, fun m hm => (h.maps m hm).kept hg (by simp), h.lo, Nat.le_trans h.hi hg.size⟩
/-- A row that lies in no map. -/
theorem Ix.row {w w' : World} {B base n m : Nat} {k : List UInt8} {V : Nat → List UInt8 → Value} {L : Nat → List UInt8 → List Int} {v' : Value} {l' : List Int} (h : Ix w B base n V L) (hm : 3 ≤ m) (hs : Step base w w' (V m k) v' l') (hne : l' ≠ []) : Ix w' B base n (upd V m k v') (upd L m k l') := by
  refine ⟨h.rows.step hs, fun m1 k1 h0 => ?_, fun m1 hm1 => ?_, h.lo, Nat.le_trans h.hi hs.grown.size⟩
  · by_cases e : (m1, k1) = (m, k)
    · simp only [Prod.mk.injEq] at e
      obtain ⟨rfl, rfl⟩ := e
      rw [upd_same] at h0
      exact absurd h0 hne
    · rw [upd_other _ _ e] at h0 ⊢
      exact h.nil m1 k1 h0
  · have e : bkt (upd V m k v') (upd L m k l') m1 = bkt V L m1 := by
      funext s
      unfold bkt
      rw [upd_other _ _ (by simp; omega), upd_other _ _ (by simp; omega)]
    rw [e]
    refine (h.maps m1 hm1).kept hs.grown ?_
    intro e
    have := ((h.rows.own m k).lt (B + m1) e.symm).1
    have := h.lo
    omega
/-- A bucket in map m: the row, then the store. -/
theorem Ix.bucket {w w1 : World} {B base n m : Nat} {V : Nat → List UInt8 → Value} {L : Nat → List UInt8 → List Int} {v' : Value} {l' : List Int} {s : ByteArray} (h : Ix w B base n V L) (hm : m < 3) (hs : s.size ≤ maxLen) (hn : n < 4194304) (hst : Step base w w1 (V m s.data.toList) v' l') (hne : l' ≠ []) :
    ∃ w2, (Instr.mapUpdate 31 (.map (some (B + m))) (.string s) v').run Try.prog w1 = .ok () w2 ∧ Ix w2 B base (n + 1) (upd V m s.data.toList v') (upd L m s.data.toList l') ∧ w1.grownBy w2 (some (B + m)) := by
  have hk : ∀ m1, m1 < 3 → MapF w1 (B + m1) n (bkt V L m1) := fun m1 hm1 => (h.maps m1 hm1).kept hst.grown (fun e => by
    have := ((h.rows.own m s.data.toList).lt (B + m1) e.symm).1
    have := h.lo
    omega)
  obtain ⟨w2, hrun, hM, hg⟩ := (hk m hm).store hs v' hn
  refine ⟨w2, hrun, ⟨(h.rows.step hst).kept hg (fun g hg => ?_), fun m1 k1 h0 => ?_, fun m1 hm1 => ?_, h.lo, Nat.le_trans h.hi (Nat.le_trans hst.grown.size hg.size)⟩, hg⟩
  · cases hg; have := h.lo; omega
  · by_cases e : (m1, k1) = (m, s.data.toList)
    · simp only [Prod.mk.injEq] at e
      obtain ⟨rfl, rfl⟩ := e
      rw [upd_same] at h0
      exact absurd h0 hne
    · rw [upd_other _ _ e] at h0 ⊢
      exact h.nil m1 k1 h0
  · by_cases e : m1 = m
    · subst e
      have e2 : (fun t : ByteArray => if t.data.toList = s.data.toList then some v' else bkt V L m1 t) = bkt (upd V m1 s.data.toList v') (upd L m1 s.data.toList l') m1 := by
        funext t
        unfold bkt
        by_cases ht : t.data.toList = s.data.toList
        · rw [if_pos ht, ht, upd_same, upd_same, if_neg hne]
        · rw [if_neg ht, upd_other _ _ (by simp [ht]), upd_other _ _ (by simp [ht])]
      rw [← e2]
      exact hM
    · have e2 : bkt (upd V m s.data.toList v') (upd L m s.data.toList l') m1 = bkt V L m1 := by
        funext t
        unfold bkt
        rw [upd_other _ _ (by simp [e]), upd_other _ _ (by simp [e])]
      rw [e2]
      exact ((hk m1 hm1).kept hg (by simp; omega)).mono (Nat.le_succ _)
end Go.Proofs.Qxb6627205a
