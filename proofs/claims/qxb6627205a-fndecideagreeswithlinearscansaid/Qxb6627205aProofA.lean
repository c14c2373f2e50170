import Derived.Test.Qxb6627205aOpen
import Derived.ProofKit
import Derived.WalkKit
import Derived.Carry
import Derived.Test.Qxb6627205aAgr
namespace Go.Proofs.Qxb6627205a
open Go.ChangeShapes Go.WideShapes Go.ChangeAt Go.RowKit Go.Deep

theorem Try.laidOut : laidOutB Try.prog = true := by kernel_rfl

set_option maxRecDepth 100000 in
theorem agr_lifted (os : Os) (started : os.Started) (H : Type) (enc : TypeId × Value → H) :
    ReturnsInHanded {} Try.checked os 3 .any (Rows.fnDecideAgreesWithLinearScanSpec.pre6 enc Try.prog Try.f3 Rows.fnDecideAgreesWithLinearScanRow.domain false) (Rows.fnDecideAgreesWithLinearScanSpec.post enc Try.prog Try.f3 false true false false) := by
  refine returnsInHanded_of_change (C := Try.checked) Try.own started (by kernel_rfl) Try.func3
    (ChangeSpec.witness6 (enc := enc) (C := Try.checked) false ⟨#[], #[.slice none 0 0, .slice none 0 0, .slice none 0 0, .string ByteArray.empty], []⟩ 8 (by kernel_rfl) (by kernel_rfl) (by kernel_rfl) (by kernel_rfl)) ?_
  intro W base args ds gs before hval0 hW hcnd _
  have hval : ∀ (j : Nat) t v, Try.f3.params[j]? = some t → args[j]? = some v → Value.okWide Try.prog W .any base t v := hval0
  have hW' := hW
  obtain ⟨p, q, hA0, hV, rfl, hfz, hnd⟩ := hW
  have hA : DataW.TrodAll enc Try.prog W 0 (fun _ => true) true Try.f3.params.toList args.toList ds p := hA0
  rw [Try.params3] at hA hval
  obtain ⟨v0, v1, v2, v3, d0, d1, d2, d3, p0, p1, p2, p3, rfl, rfl, rfl, h0, h1, h2, h3⟩ := trodAll_four hA
  obtain ⟨rfl, rfl⟩ := trodVars_none hV
  have k0 := h0
  have k1 := h1
  have k2 := h2
  have k3 := h3
  have lt0 : ∀ x ∈ p0, x.block < W.heap.size := by obtain ⟨m, hm⟩ := k0; exact DataW.trod_lt m _ _ _ hm
  have lt1 : ∀ x ∈ p1, x.block < W.heap.size := by obtain ⟨m, hm⟩ := k1; exact DataW.trod_lt m _ _ _ hm
  have lt2 : ∀ x ∈ p2, x.block < W.heap.size := by obtain ⟨m, hm⟩ := k2; exact DataW.trod_lt m _ _ _ hm
  have lt3 : ∀ x ∈ p3, x.block < W.heap.size := by obtain ⟨m, hm⟩ := k3; exact DataW.trod_lt m _ _ _ hm
  obtain ⟨a0', len0, cap0', rfl⟩ := okWide_slice Try.underlying22 (hval 0 22 v0 rfl rfl)
  obtain ⟨a1', len1, cap1', rfl⟩ := okWide_slice Try.underlying22 (hval 1 22 v1 rfl rfl)
  obtain ⟨a2', len2, cap2', rfl⟩ := okWide_slice Try.underlying23 (hval 2 23 v2 rfl rfl)
  obtain ⟨s, rfl, hs⟩ : ∃ s : ByteArray, v3 = .string s ∧ s.size ≤ maxLen := by
    obtain ⟨s, rfl⟩ := okWide_string Try.underlying9 (hval 3 9 v3 rfl rfl)
    obtain ⟨fuel, hf⟩ := h3
    obtain ⟨s', h, _, hs⟩ := DataW.trod_string Try.underlying9 hf
    simp [Value.cells] at h
    subst h
    exact ⟨s, rfl, hs⟩
  obtain ⟨a0, deny, cap0, e0, hR0, hl0⟩ : ∃ a rs cap, Value.slice a0' len0 cap0' = .slice a (rs : List Rule).length cap ∧ Rl W a rs ∧ rs.length ≤ maxLen := by
    obtain ⟨fuel, hf⟩ := h0
    exact open_rules (by simpa [Value.cells] using hf)
  obtain ⟨a1, allow, cap1, e1, hR1, hl1⟩ : ∃ a rs cap, Value.slice a1' len1 cap1' = .slice a (rs : List Rule).length cap ∧ Rl W a rs ∧ rs.length ≤ maxLen := by
    obtain ⟨fuel, hf⟩ := h1
    exact open_rules (by simpa [Value.cells] using hf)
  obtain ⟨a2, vs, cap2, e2, hS, hl2⟩ : ∃ a ss cap, Value.slice a2' len2 cap2' = .slice a (ss : List ByteArray).length cap ∧ Ss W a ss ∧ ss.length ≤ maxLen := by
    obtain ⟨fuel, hf⟩ := h2
    exact open_strs (by simpa [Value.cells] using hf)
  clear hA0 hval0
  rw [e0, e1, e2]
  refine (agrees3 W a0 deny cap0 a1 allow cap1 hR0 hR1 hl0 hl1 a2 vs cap2 hS hl2 s hs).mono fun e W' ⟨he, bel⟩ => ?_
  subst he
  rw [e0] at k0 hW'
  rw [e1] at k1 hW'
  rw [e2] at k2 hW'
  exact ⟨_, rfl, _, _, _, [], _, [], hW', trodAll_mk1 (shut_bool Try.underlying4 _), (trodAll_mk4 (Below.trod Try.laidOut (by kernel_rfl) (of_decide_eq_true (by kernel_rfl)) k0 bel lt0) (Below.trod Try.laidOut (by kernel_rfl) (of_decide_eq_true (by kernel_rfl)) k1 bel lt1) (Below.trod Try.laidOut (by kernel_rfl) (of_decide_eq_true (by kernel_rfl)) k2 bel lt2) (Below.trod Try.laidOut (by kernel_rfl) (of_decide_eq_true (by kernel_rfl)) k3 bel lt3)), rfl, bel.frame _, fun h => by cases h⟩

theorem agr_over : Rows.fnDecideAgreesWithLinearScanRow.holds Try.pinned (OpenSpec.ofChange Rows.fnDecideAgreesWithLinearScanSpec) :=
  OpenClaim.holds_of_wide 3 Try.f3 rfl rfl rfl rfl rfl rfl rfl ⟨rfl, rfl, rfl, rfl, rfl⟩ rfl rfl rfl rfl rfl (by kernel_rfl) Try.func3 (by kernel_rfl)
    (of_decide_eq_true (by kernel_rfl)) (by unfold Func.isWrapper; first | (rw [if_pos (by decide +kernel)]; kernel_rfl) | (rw [if_neg (by decide +kernel)]; exact ⟨rfl, rfl⟩))
    (fun os started H enc _ => agr_lifted os started H enc)

theorem agrees_proved : Rows.FnDecideAgreesWithLinearScanSaid := agr_over
end Go.Proofs.Qxb6627205a
