import Derived.Test.Qxb6627205aFirst
namespace Go.Proofs.Qxb6627205a
open Go.RowKit Go.Maps

attribute [local go_sem ↓] Go.wp_at_zero Go.wp_at_succ

theorem verdict_deny {deny allow : List Rule} {vs : List ByteArray} {m : ByteArray} {r : Rule} (h : deny.find? (ruleOK vs m) = some r) : verdict deny allow vs m = (false, r.name) := by simp [verdict, h]
theorem verdict_allow {deny allow : List Rule} {vs : List ByteArray} {m : ByteArray} {r : Rule} (h0 : deny.find? (ruleOK vs m) = none) (h : allow.find? (ruleOK vs m) = some r) : verdict deny allow vs m = (true, r.name) := by simp [verdict, h0, h]
theorem verdict_none {deny allow : List Rule} {vs : List ByteArray} {m : ByteArray} (h0 : deny.find? (ruleOK vs m) = none) (h : allow.find? (ruleOK vs m) = none) : verdict deny allow vs m = (false, ByteArray.empty) := by simp [verdict, h0, h]
theorem LM.below {w w' : World} {pb po : Nat} {rs : List Rule} (h : LM w pb po rs) (hb : Below w.heap.size w w') : LM w' pb po rs := by
  have hc : ∀ {i : Nat} {u : Value}, w.cell? ⟨pb, i, none⟩ = some u → w'.cell? ⟨pb, i, none⟩ = some u := fun h => (hb.cell (block_lt_of_cell h)).trans h
  obtain ⟨A, a1, a2, a3, a4, a5, a6, a7, a8, C, n1, n2, n3, n4, n5, n6, n7, n8, n9, n10, n11, n12, n13, n14, n15, n16, n17, n18, n19, n20, n21, n22, h0, h1, h2, h3, h4, h5, h6, h7, h8, h9, h10, h11, h12, h13, h14, r, d1, d2⟩ := h
  exact ⟨A, a1, a2, a3, a4, a5, a6, a7, a8, C, n1, n2, n3, n4, n5, n6, n7, n8, n9, n10, n11, n12, n13, n14, n15, n16, n17, n18, n19, n20, n21, n22, hc h0, hc h1, hc h2, hc h3, hc h4, hc h5, hc h6, hc h7, hc h8, hc h9, hc h10, hc h11, hc h12, hc h13, hc h14, r.below hb, d1.kept (grown_of_below hb), d2.kept (grown_of_below hb)⟩

set_option maxHeartbeats 1600000 in
theorem decide11 (w : World) (pb : Nat) (deny allow : List Rule) (hM : LM w pb 0 deny) (hM2 : LM w pb 15 allow) (a' : Option Addr) (vs : List ByteArray) (c' : Nat) (hS : Ss w a' vs) (hl : vs.length ≤ 1048576) (m : ByteArray) (hm : m.size ≤ maxLen) :
    Calls Try.prog 11 #[.pointer (some ⟨pb, 0, none⟩), .slice a' vs.length c', .string m] w fun e w' => e = .returned (.agg #[.bool (verdict deny allow vs m).1, .string (verdict deny allow vs m).2]) ∧ Below w.heap.size w w' := by
  have HM : Hid (LM w pb 0 deny ∧ LM w pb 15 allow ∧ Ss w a' vs) := ⟨hM, hM2, hS⟩
  have HB0 : Hid (Below w.heap.size w (w.alloc (.cells #[.bool false, .string { data := #[] }] 39))) := (Below.refl _ _).alloc (Nat.le_refl _) _
  have HC0 : Hid ((w.alloc (.cells #[.bool false, .string { data := #[] }] 39)).heap[w.heap.size]? = some (.cells #[.bool false, .string { data := #[] }] 39) ∧ (w.alloc (.cells #[.bool false, .string { data := #[] }] 39)).heap.size = w.heap.size + 1) := ⟨new_block _ _, World.size_alloc _ _⟩
  clear hM hM2 hS
  go_enter Try.func11, Try.ntmps11
  go_wp2_with fail
  generalize w.alloc (.cells #[.bool false, .string { data := #[] }] 39) = W0 at *
  obtain ⟨N, hN⟩ : ∃ N, N = w.heap.size := ⟨_, rfl⟩
  have HN : Hid (N = w.heap.size) := hN
  rw [← hN] at HB0 HC0 ⊢
  clear hN
  have HBW : Hid (Below w.heap.size w W0) := by rw [← HN.out]; exact HB0.out
  refine (first21 _ pb 0 deny (HM.out.1.below HBW.out) a' vs c' (HM.out.2.2.below HBW.out) hl m hm).mono ?_
  rintro e w1 ⟨hf, hb1⟩
  rcases hf with ⟨hn, rfl⟩ | ⟨r, b, o, hs, rfl, hR⟩
  · have HF1 : Hid (deny.find? (ruleOK vs m) = none) := hn
    have HB1 : Hid (Below w.heap.size w w1 ∧ Below W0.heap.size W0 w1) := ⟨HBW.out.trans (hb1.mono HBW.out.size), hb1⟩
    clear hn hb1
    go_wp2_with fail
    refine (first21 _ pb 15 allow (HM.out.2.1.below HB1.out.1) a' vs c' (HM.out.2.2.below HB1.out.1) hl m hm).mono ?_
    rintro e w2 ⟨hf, hb2⟩
    have HBB : Hid (Below W0.heap.size W0 w2) := HB1.out.2.trans (hb2.mono HB1.out.2.size)
    clear hb2
    rcases hf with ⟨hn, rfl⟩ | ⟨r, b, o, hs, rfl, hR⟩
    · have HF2 : Hid (allow.find? (ruleOK vs m) = none) := hn
      clear hn
      have hz : w2.heap[N]? = some (.cells #[.bool false, .string { data := #[] }] 39) := (HBB.out.block N (by have := HC0.out.2; omega)).trans HC0.out.1
      have d0 := cell_in hz 0
      have d1 := cell_in hz 1
      have dz := frozen_in hz
      have HNB : Hid (Below w.heap.size w w2) := by
        have h1 := HB0.out
        rw [HN.out] at h1
        exact h1.trans (HBB.out.mono (by have := HC0.out.2; have := HN.out; omega))
      clear hz
      go_wp2
      refine bodyPost_ret (v := .agg #[.bool false, .string { data := #[] }]) (by simp [results, Try.results11, go_sem, d0, d1]) rfl ⟨by rw [verdict_none HF1.out HF2.out]; rfl, ?_⟩
      exact (HNB.out.setCell (by have := HN.out; show w.heap.size ≤ N; omega) _).setCell (by have := HN.out; show w.heap.size ≤ N; omega) _
    · have HF2 : Hid (allow.find? (ruleOK vs m) = some r) := hs
      obtain ⟨_, _, _, _, hcn, _⟩ := hR
      clear hs
      have hz : w2.heap[N]? = some (.cells #[.bool false, .string { data := #[] }] 39) := (HBB.out.block N (by have := HC0.out.2; omega)).trans HC0.out.1
      have d0 := cell_in hz 0
      have d1 := cell_in hz 1
      have dz := frozen_in hz
      have HNB : Hid (Below w.heap.size w w2) := by
        have h1 := HB0.out
        rw [HN.out] at h1
        exact h1.trans (HBB.out.mono (by have := HC0.out.2; have := HN.out; omega))
      clear hz
      go_wp2
      refine bodyPost_ret (v := .agg #[.bool true, .string r.name]) (by simp [results, Try.results11, go_sem, d0, d1]) rfl ⟨by rw [verdict_allow HF1.out HF2.out], ?_⟩
      exact (HNB.out.setCell (by have := HN.out; show w.heap.size ≤ N; omega) _).setCell (by have := HN.out; show w.heap.size ≤ N; omega) _
  · have HF1 : Hid (deny.find? (ruleOK vs m) = some r) := hs
    have HBB : Hid (Below W0.heap.size W0 w1) := hb1
    obtain ⟨_, _, _, _, hcn, _⟩ := hR
    clear hs hb1
    have hz : w1.heap[N]? = some (.cells #[.bool false, .string { data := #[] }] 39) := (HBB.out.block N (by have := HC0.out.2; omega)).trans HC0.out.1
    have d0 := cell_in hz 0
    have d1 := cell_in hz 1
    have dz := frozen_in hz
    have HNB : Hid (Below w.heap.size w w1) := by
      have h1 := HB0.out
      rw [HN.out] at h1
      exact h1.trans (HBB.out.mono (by have := HC0.out.2; have := HN.out; omega))
    clear hz
    go_wp2
    refine bodyPost_ret (v := .agg #[.bool false, .string r.name]) (by simp [results, Try.results11, go_sem, d0, d1]) rfl ⟨by rw [verdict_deny HF1.out], ?_⟩
    exact (HNB.out.setCell (by have := HN.out; show w.heap.size ≤ N; omega) _).setCell (by have := HN.out; show w.heap.size ≤ N; omega) _
end Go.Proofs.Qxb6627205a
