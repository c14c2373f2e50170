import Derived.Test.Qxb6627205aDec
namespace Go.Proofs.Qxb6627205a
open Go.RowKit Go.Maps

attribute [local go_sem ↓] Go.wp_at_zero Go.wp_at_succ

theorem firstI_find (rs : List Rule) (vs : List ByteArray) (m : ByteArray) : (rs.find? (ruleOK vs m) = none ∧ firstI rs vs m = -1) ∨ ∃ (k : Nat) (r : Rule), rs[k]? = some r ∧ rs.find? (ruleOK vs m) = some r ∧ firstI rs vs m = k := by
  cases h : rs.find? (ruleOK vs m) with
  | none =>
    left
    refine ⟨rfl, firstI_none fun t q _ hq => ?_⟩
    have := List.find?_eq_none.1 h q (List.mem_of_getElem? hq)
    simpa using this
  | some r =>
    right
    obtain ⟨hok, k, hk, e, hn⟩ := List.find?_eq_some_iff_getElem.1 h
    refine ⟨k, r, by rw [List.getElem?_eq_getElem hk, e], rfl, firstI_at (by rw [List.getElem?_eq_getElem hk, e]) hok fun t q ht hq => ?_⟩
    have h2 := hn t ht
    obtain ⟨h3, h4⟩ := List.getElem?_eq_some_iff.1 hq
    rw [h4] at h2
    simpa using h2

set_option maxHeartbeats 1600000 in
theorem model12 (w : World) (a : Option Addr) (deny : List Rule) (c : Nat) (a2 : Option Addr) (allow : List Rule) (c2 : Nat) (hR : Rl w a deny) (hR2 : Rl w a2 allow) (hd : deny.length ≤ 1048576) (ha : allow.length ≤ 1048576) (a' : Option Addr) (vs : List ByteArray) (c' : Nat) (hS : Ss w a' vs) (hl : vs.length ≤ 1048576) (m : ByteArray) (hm : m.size ≤ maxLen) :
    Calls Try.prog 12 #[.slice a deny.length c, .slice a2 allow.length c2, .slice a' vs.length c', .string m] w fun e w' => e = .returned (.tuple #[.bool (verdict deny allow vs m).1, .string (verdict deny allow vs m).2]) ∧ Below w.heap.size w w' := by
  have HM : Hid (Rl w a deny ∧ Rl w a2 allow ∧ Ss w a' vs) := ⟨hR, hR2, hS⟩
  clear hR hR2 hS
  rcases firstI_find deny vs m with ⟨hf, hi⟩ | ⟨k, r, hk, hf, hi⟩
  · have HF : Hid (deny.find? (ruleOK vs m) = none ∧ firstI deny vs m = -1) := ⟨hf, hi⟩
    clear hf hi
    rcases firstI_find allow vs m with ⟨hf, hi⟩ | ⟨k, r, hk, hf, hi⟩
    · have HF2 : Hid (allow.find? (ruleOK vs m) = none ∧ firstI allow vs m = -1) := ⟨hf, hi⟩
      clear hf hi
      go_enter Try.func12, Try.ntmps12
      go_wp2_with fail
      refine (first22 _ a a' c c' deny vs m (by unfold maxLen; omega) (by unfold maxLen; omega) hm HM.out.1 HM.out.2.2).mono ?_
      rw [HF.out.2]
      rintro e w1 ⟨rfl, hb1⟩
      go_wp2_with fail
      refine (first22 _ a2 a' c2 c' allow vs m (by unfold maxLen; omega) (by unfold maxLen; omega) hm (HM.out.2.1.below hb1) (HM.out.2.2.below hb1)).mono ?_
      rw [HF2.out.2]
      rintro e w2 ⟨rfl, hb2⟩
      have HB2 : Hid (Below w.heap.size w w2) := hb1.trans (hb2.mono hb1.size)
      clear hb1 hb2
      go_wp2
      exact bodyPost_ret (v := .tuple #[.bool false, .string { data := #[] }]) (by simp [results, Try.results12, go_sem]) rfl ⟨by rw [verdict_none HF.out.1 HF2.out.1]; rfl, HB2.out⟩
    · have HF2 : Hid (allow.find? (ruleOK vs m) = some r ∧ firstI allow vs m = k) := ⟨hf, hi⟩
      have hkl : k < allow.length := (List.getElem?_eq_some_iff.1 hk).1
      have hkl' : (k : Int) < (allow.length : Int) := by omega
      obtain ⟨b, o, hA, hc⟩ : ∃ b o, a2 = some ⟨b, o, none⟩ ∧ w.cell? ⟨b, o + k * 3, none⟩ = some (.string r.name) := by
        rcases HM.out.2.1 with h | ⟨b, o, h1, h2⟩
        · simp [h] at hkl
        · obtain ⟨_, _, _, _, q, _⟩ := h2 k r hk
          exact ⟨b, o, h1, q⟩
      subst hA
      have HC : Hid (w.cell? ⟨b, o + k * 3, none⟩ = some (.string r.name)) := hc
      clear hf hi hc hk
      go_enter Try.func12, Try.ntmps12
      go_wp2_with fail
      refine (first22 _ a a' c c' deny vs m (by unfold maxLen; omega) (by unfold maxLen; omega) hm HM.out.1 HM.out.2.2).mono ?_
      rw [HF.out.2]
      rintro e w1 ⟨rfl, hb1⟩
      go_wp2_with fail
      refine (first22 _ (some ⟨b, o, none⟩) a' c2 c' allow vs m (by unfold maxLen; omega) (by unfold maxLen; omega) hm (HM.out.2.1.below hb1) (HM.out.2.2.below hb1)).mono ?_
      rw [HF2.out.2]
      rintro e w2 ⟨rfl, hb2⟩
      have HB2 : Hid (Below w.heap.size w w2) := hb1.trans (hb2.mono hb1.size)
      have hc2 : w2.cell? ⟨b, o + k * 3, none⟩ = some (.string r.name) := (HB2.out.cell (block_lt_of_cell HC.out)).trans HC.out
      clear hb1 hb2
      go_wp2_with fail
      go_quiet (fail)
      go_wp2
      exact bodyPost_ret (v := .tuple #[.bool true, .string r.name]) (by simp [results, Try.results12, go_sem]) rfl ⟨by rw [verdict_allow HF.out.1 HF2.out.1], below_drewN HB2.out _⟩
  · have HF : Hid (deny.find? (ruleOK vs m) = some r ∧ firstI deny vs m = k) := ⟨hf, hi⟩
    have hkl : k < deny.length := (List.getElem?_eq_some_iff.1 hk).1
    have hkl' : (k : Int) < (deny.length : Int) := by omega
    obtain ⟨b, o, hA, hc⟩ : ∃ b o, a = some ⟨b, o, none⟩ ∧ w.cell? ⟨b, o + k * 3, none⟩ = some (.string r.name) := by
      rcases HM.out.1 with h | ⟨b, o, h1, h2⟩
      · simp [h] at hkl
      · obtain ⟨_, _, _, _, q, _⟩ := h2 k r hk
        exact ⟨b, o, h1, q⟩
    subst hA
    have HC : Hid (w.cell? ⟨b, o + k * 3, none⟩ = some (.string r.name)) := hc
    clear hf hi hc hk
    go_enter Try.func12, Try.ntmps12
    go_wp2_with fail
    refine (first22 _ (some ⟨b, o, none⟩) a' c c' deny vs m (by unfold maxLen; omega) (by unfold maxLen; omega) hm HM.out.1 HM.out.2.2).mono ?_
    rw [HF.out.2]
    rintro e w2 ⟨rfl, hb1⟩
    have HB2 : Hid (Below w.heap.size w w2) := hb1
    have hc2 : w2.cell? ⟨b, o + k * 3, none⟩ = some (.string r.name) := (HB2.out.cell (block_lt_of_cell HC.out)).trans HC.out
    clear hb1
    go_wp2_with fail
    go_quiet (fail)
    go_wp2
    exact bodyPost_ret (v := .tuple #[.bool false, .string r.name]) (by simp [results, Try.results12, go_sem]) rfl ⟨by rw [verdict_deny HF.out.1], below_drewN HB2.out _⟩
end Go.Proofs.Qxb6627205a
