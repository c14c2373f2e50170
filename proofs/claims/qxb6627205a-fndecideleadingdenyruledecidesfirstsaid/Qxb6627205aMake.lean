import Derived.Test.Qxb6627205aMatch
import Derived.Deep.Slices
namespace Go.Proofs.Qxb6627205a
open Go.RowKit

attribute [local go_sem ↓] Go.wp_at_zero Go.wp_at_succ

theorem Try.info69 : (Try.prog.info? 69).map (fun i => (i.zero, i.size, i.bytes)) = some (some (.agg #[.int .u8 0, .string ByteArray.empty]), 2, 24) := by kernel_rfl
theorem Try.info56 : (Try.prog.info? 56).map (fun i => (i.zero, i.size, i.bytes)) = some (some (.agg #[.string ByteArray.empty, .slice none 0 0, .slice none 0 0, .bool false]), 4, 72) := by kernel_rfl
theorem Try.info3 : (Try.prog.info? 3).map (fun i => (i.zero, i.size, i.bytes)) = some (some (.int .i64 0), 1, 8) := by kernel_rfl

set_option maxHeartbeats 400000 in
theorem new26 (w : World) (f : Int) (t : ByteArray) :
    Calls Try.prog 26 #[.int .u8 f, .string t] w fun e w' => e = .returned (.agg #[.int .u8 f, .string t]) ∧ Below w.heap.size w w' := by
  go_enter Try.func26, Try.ntmps26
  go_wp2
  refine bodyPost_ret (v := .agg #[.int .u8 f, .string t]) (by simp [results, Try.results26, go_sem]) rfl ⟨rfl, ?_⟩
  exact (Below.refl _ _).alloc (Nat.le_refl _) _

def mcells (ps : List Pat) : List Value := ps.flatMap fun p => [.int .u8 p.form, .string p.text]
theorem mcells_len (ps : List Pat) : (mcells ps).length = ps.length * 2 := by
  induction ps with
  | nil => rfl
  | cons p ps ih => simp only [mcells, List.flatMap_cons, List.length_append, List.length_cons, List.length_nil] at *; omega
theorem mcells_snoc (ps : List Pat) (k : Nat) (p : Pat) (h : ps[k]? = some p) : mcells (ps.take k) ++ [.int .u8 p.form, .string p.text] = mcells (ps.take (k + 1)) := by
  have hlt := (List.getElem?_eq_some_iff.1 h).1
  rw [List.take_succ_eq_append_getElem hlt]
  have e : ps[k] = p := (List.getElem?_eq_some_iff.1 h).2
  simp [mcells, e]
theorem mcells_get (ps : List Pat) (k : Nat) (p : Pat) (h : ps[k]? = some p) : (mcells ps)[k * 2]? = some (.int .u8 p.form) ∧ (mcells ps)[k * 2 + 1]? = some (.string p.text) := by
  induction ps generalizing k with
  | nil => simp at h
  | cons q ps ih =>
    cases k with
    | zero => simp at h; subst h; simp [mcells]
    | succ k =>
      have := ih k (by simpa using h)
      simp only [mcells, List.flatMap_cons] at this ⊢
      rw [show (k + 1) * 2 = 2 + k * 2 by omega, show 2 + k * 2 + 1 = 2 + (k * 2 + 1) by omega]
      exact ⟨by rw [List.getElem?_append_right (by simp)]; simpa using this.1, by rw [List.getElem?_append_right (by simp)]; simpa using this.2⟩
/-- Every text is a text, every form a byte. -/
def OkPs (ps : List Pat) : Prop := ∀ p ∈ ps, 0 ≤ p.form ∧ p.form ≤ 255 ∧ p.text.size ≤ maxLen
theorem Ps.ok {w : World} {a : Option Addr} {ps : List Pat} (h : Ps w a ps) : OkPs ps := by
  intro p hp
  obtain ⟨k, hk⟩ := List.getElem?_of_mem hp
  rcases h with h | ⟨b, o, _, h2⟩
  · subst h; simp at hk
  · exact (h2 k p hk).2.2
theorem ps_of_own {w : World} {base : Nat} {v : Value} {ps : List Pat} (h : w.ownsRow base 69 2 v ps.length (mcells ps)) (hok : OkPs ps) : ∃ A C, v = .slice A ps.length C ∧ Ps w A ps := by
  rcases h.2 with ⟨h1, h2⟩ | ⟨g, cap, cur, h1, _⟩
  · exact ⟨none, 0, by rw [h1, h2], .inl (List.eq_nil_of_length_eq_zero h2)⟩
  · refine ⟨some ⟨g, 0, none⟩, cap, h1, .inr ⟨g, 0, rfl, fun k p hp => ?_⟩⟩
    subst h1
    have hlt := (List.getElem?_eq_some_iff.1 hp).1
    have hg := mcells_get ps k p hp
    refine ⟨?_, ?_, hok p (List.mem_of_getElem? hp)⟩
    · rw [Nat.zero_add, h.cellAt _ (by omega)]; exact hg.1
    · rw [Nat.zero_add, h.cellAt _ (by omega)]; exact hg.2

theorem own_below {w w' : World} {base e size n : Nat} {v : Value} {xs : List Value} (h : w.ownsRow base e size v n xs) (hb : Below w.heap.size w w') : w'.ownsRow base e size v n xs := by
  refine ⟨h.1, ?_⟩
  rcases h.2 with h1 | ⟨g, cap, cur, h1, h2, h3, r⟩
  · exact .inl h1
  · refine .inr ⟨g, cap, cur, h1, h2, ?_, r⟩
    have hlt : g < w.heap.size := by
      by_cases h : g < w.heap.size
      · exact h
      · rw [Array.getElem?_eq_none (by omega)] at h3; cases h3
    rw [hb.block g hlt]; exact h3
theorem news2 (w : World) (x y : Value) (t : TypeId) : ∀ j u, [x, y][j]? = some u → (w.alloc (.cells #[x, y] t)).cell? ((⟨w.heap.size, 0, none⟩ : Addr).add j) = some u := by
  intro j u hu
  rw [WideShapes.add_plain, Nat.zero_add, World.cell?_alloc_new]
  simpa using hu

set_option maxHeartbeats 1600000 in
theorem matchers18 (w : World) (a : Option Addr) (ps : List Pat) (c : Nat) (hl : ps.length ≤ 1048576) (hP : Ps w a ps) :
    Calls Try.prog 18 #[.slice a ps.length c] w fun e w' => ∃ A C, e = .returned (.slice A ps.length C) ∧ Ps w' A ps ∧ Below w.heap.size w w' := by
  obtain ⟨i0, hi, hz0, hz1, hz2⟩ := info_parts Try.info69
  have HOK : Hid (OkPs ps) := hP.ok
  go_enter Try.func18, Try.ntmps18
  go_wp2
  go_loopg [3, 4] (ps.length + 1) (fun gk v i wr => ∃ k : Nat, k ≤ ps.length ∧ gk = ps.length + 1 - k ∧ i = .int .i64 k ∧ wr.ownsRow w.heap.size 69 2 v k (mcells (ps.take k)) ∧ Below w.heap.size w wr)
  case atStart => exact ⟨0, Nat.zero_le _, rfl, rfl, World.ownsRow_nil _ _ _ _, Below.refl _ _⟩
  case round =>
    obtain ⟨k, hk, rfl, rfl, hown, hb⟩ := hrel
    by_cases hlt : k < ps.length
    · rcases hP with h | ⟨b, o, rfl, hP⟩
      · simp [h] at hlt
      obtain ⟨p, hp⟩ : ∃ p, ps[k]? = some p := ⟨ps[k], List.getElem?_eq_getElem hlt⟩
      have HP1 : Hid (P1 w b (o + k * 2) p) := hP k p hp
      have HPk : Hid (ps[k]? = some p) := hp
      have hkl : (k : Int) < (ps.length : Int) := by omega
      have hq : ∀ w', Hid (Below w.heap.size w w') → w'.cell? ⟨b, o + k * 2, none⟩ = some (.int .u8 p.form) ∧ w'.cell? ⟨b, o + k * 2 + 1, none⟩ = some (.string p.text) := fun w' h => ⟨(h.out.cell (block_lt_of_cell HP1.out.1)).trans HP1.out.1, (h.out.cell (block_lt_of_cell HP1.out.2.1)).trans HP1.out.2.1⟩
      have HQ : Hid (∀ w', Hid (Below w.heap.size w w') → w'.cell? ⟨b, o + k * 2, none⟩ = some (.int .u8 p.form) ∧ w'.cell? ⟨b, o + k * 2 + 1, none⟩ = some (.string p.text)) := hq
      have HB : Hid (Below w.heap.size w wr) := hb
      have HOW : Hid (wr.ownsRow w.heap.size 69 2 u3 k (mcells (ps.take k))) := hown
      clear hP hp hq hown hb
      go_wp2_with fail
      go_region_held3 (fun w' => w'.cell? ⟨b, o + k * 2, none⟩ = some (.int .u8 p.form) ∧ w'.cell? ⟨b, o + k * 2 + 1, none⟩ = some (.string p.text))
        (first | exact HQ.out _ HB.out.drew | exact HQ.out _ HB1 | exact HQ.out _ (HB1.out.alloc HB1.out.size _) | exact HQ.out _ HB3)
        (first
          | (go_at_call 26; refine (new26 _ p.form p.text).mono ?_; rintro e w1 ⟨rfl, hb1⟩; have HB1 : Hid (Below w.heap.size w w1) := HB.out.drew.trans (Below.mono (w := wr.drew) hb1 HB.out.size); have HO1 : Hid (w1.ownsRow w.heap.size 69 2 u3 k (mcells (ps.take k))) := own_below (w := wr.drew) HOW.out.drew hb1; clear hb1)
          | (refine step_append_lies _ (by rfl) _ _ _ (by rfl) w.heap.size 69 i0 _ 2 24 Try.underlying54 hi hz0 hz1 hz2 rfl (by omega) u3 k (mcells (ps.take k)) (by rfl) (HO1.out.alloc _) ⟨w1.heap.size, 0, none⟩ 1 1 [.int .u8 p.form, .string p.text] (by rfl) rfl (by exact news2 _ _ _ _) (by intro u hu; simp at hu; rcases hu with rfl | rfl <;> rfl) (by omega) (by unfold maxLen; omega) (by omega) (by have := HB1.out.size; simp; omega) (w1.heap.size + 1) (by simp) ?_; intro g cap w3 hown3 hgrow3 hat3 hlt3; have HB3 : Hid (Below w.heap.size w w3) := (HB1.out.alloc HB1.out.size _).grown hgrow3 (by have := HB1.out.size; simp; omega) (fun q hq => (HO1.out.lt q hq).1)))
      have HO3 : Hid (w3.ownsRow w.heap.size 69 2 (.slice (some ⟨g, 0, none⟩) (k + 1) cap) (k + 1) (mcells (ps.take (k + 1)))) := by
        rw [mcells_snoc ps k p HPk.out] at hown3; exact hown3
      clear hown3 hgrow3 hat3 hlt3
      go_wp2
      go_roundg (ps.length + 1 - (k + 1))
      case rel => exact ⟨k + 1, by omega, rfl, by go_num, HO3.out, HB3.out⟩
      case measure => omega
    · have hke : k = ps.length := by omega
      subst hke
      rw [List.take_length] at hown
      obtain ⟨A, C, rfl, hA⟩ := ps_of_own hown HOK.out
      have HA : Hid (Ps wr A ps) := hA
      clear hown hA
      go_wp2
      go_ret
      exact ⟨A, C, rfl, HA.out, hb⟩
end Go.Proofs.Qxb6627205a
