import Derived.Test.Qxb6627205aOpen
import Derived.ProofKit
import Derived.WalkKit
import Derived.Carry
import Derived.Test.Qxb6627205aFou
namespace Go.Proofs.Qxb6627205a
open Go.ChangeShapes Go.WideShapes Go.ChangeAt Go.RowKit Go.Deep

theorem Try.laidOut4 : laidOutB Try.prog = true := by kernel_rfl

set_option maxRecDepth 100000 in
theorem lead_lifted (os : Os) (started : os.Started) (H : Type) (enc : TypeId × Value → H) :
    ReturnsInHanded {} Try.checked os 4 .any (Rows.fnDecideLeadingDenyRuleDecidesFirstSpec.pre6 enc Try.prog Try.f4 Rows.fnDecideLeadingDenyRuleDecidesFirstRow.domain false) (Rows.fnDecideLeadingDenyRuleDecidesFirstSpec.post enc Try.prog Try.f4 false true false false) := by
  refine returnsInHanded_of_change (C := Try.checked) Try.own started (by kernel_rfl) Try.func4
    (ChangeSpec.witness6 (enc := enc) (C := Try.checked) false ⟨#[], #[.agg #[.string ByteArray.empty, .slice none 0 0, .slice none 0 0], .slice none 0 0, .slice none 0 0, .slice none 0 0, .string ByteArray.empty], []⟩ 8 (by kernel_rfl) (by kernel_rfl) (by kernel_rfl) (by kernel_rfl)) ?_
  intro W base args ds gs before hval0 hW hcnd _
  have hval : ∀ (j : Nat) t v, Try.f4.params[j]? = some t → args[j]? = some v → Value.okWide Try.prog W .any base t v := hval0
  have hW' := hW
  obtain ⟨p, q, hA0, hV, rfl, hfz, hnd⟩ := hW
  have hA : DataW.TrodAll enc Try.prog W 0 (fun _ => true) true Try.f4.params.toList args.toList ds p := hA0
  rw [Try.params4] at hA hval
  obtain ⟨v4, vsx, d4, dsx, p4, px, hargs, rfl, rfl, h4, hA1⟩ := trodAll_cons hA
  obtain ⟨v0, vsx, d0, dsx, p0, px, rfl, rfl, rfl, h0, hA2⟩ := trodAll_cons hA1
  obtain ⟨v1, vsx, d1, dsx, p1, px, rfl, rfl, rfl, h1, hA3⟩ := trodAll_cons hA2
  obtain ⟨v2, vsx, d2, dsx, p2, px, rfl, rfl, rfl, h2, hA4⟩ := trodAll_cons hA3
  obtain ⟨v3, vsx, d3, dsx, p3, px, rfl, rfl, rfl, h3, hA5⟩ := trodAll_cons hA4
  obtain ⟨rfl, rfl, rfl⟩ := trodAll_nil hA5
  have hargs' : args = #[v4, v0, v1, v2, v3] := by cases args; simp_all
  subst hargs'
  clear hargs hA hA1 hA2 hA3 hA4 hA5
  obtain ⟨rfl, rfl⟩ := trodVars_none hV
  have k0 := h0
  have k1 := h1
  have k2 := h2
  have k3 := h3
  have k4 := h4
  have lt0 : ∀ x ∈ p0, x.block < W.heap.size := by obtain ⟨m, hm⟩ := k0; exact DataW.trod_lt m _ _ _ hm
  have lt1 : ∀ x ∈ p1, x.block < W.heap.size := by obtain ⟨m, hm⟩ := k1; exact DataW.trod_lt m _ _ _ hm
  have lt2 : ∀ x ∈ p2, x.block < W.heap.size := by obtain ⟨m, hm⟩ := k2; exact DataW.trod_lt m _ _ _ hm
  have lt3 : ∀ x ∈ p3, x.block < W.heap.size := by obtain ⟨m, hm⟩ := k3; exact DataW.trod_lt m _ _ _ hm
  have lt4 : ∀ x ∈ p4, x.block < W.heap.size := by obtain ⟨m, hm⟩ := k4; exact DataW.trod_lt m _ _ _ hm
  obtain ⟨cs, rfl, hcs⟩ := okWide_struct Try.underlying45 (hval 0 45 v4 rfl rfl)
  obtain ⟨a0', len0, cap0', rfl⟩ := okWide_slice Try.underlying22 (hval 1 22 v0 rfl rfl)
  obtain ⟨a1', len1, cap1', rfl⟩ := okWide_slice Try.underlying22 (hval 2 22 v1 rfl rfl)
  obtain ⟨a2', len2, cap2', rfl⟩ := okWide_slice Try.underlying23 (hval 3 23 v2 rfl rfl)
  obtain ⟨s, rfl, hs⟩ : ∃ s : ByteArray, v3 = .string s ∧ s.size ≤ maxLen := by
    obtain ⟨s, rfl⟩ := okWide_string Try.underlying9 (hval 4 9 v3 rfl rfl)
    obtain ⟨fuel, hf⟩ := h3
    obtain ⟨s', h, _, hs⟩ := DataW.trod_string Try.underlying9 hf
    simp [Value.cells] at h
    subst h
    exact ⟨s, rfl, hs⟩
  obtain ⟨r, A1, C1, A2, C2, e4, hp1, hp2, hn1, hn2, hn3⟩ : ∃ (r : Rule) (A1 : Option Addr) (C1 : Nat) (A2 : Option Addr) (C2 : Nat), Value.agg cs = .agg #[.string r.name, .slice A1 r.pr.length C1, .slice A2 r.pa.length C2] ∧ Ps W A1 r.pr ∧ Ps W A2 r.pa ∧ r.name.size ≤ maxLen ∧ r.pr.length ≤ maxLen ∧ r.pa.length ≤ maxLen := by
    obtain ⟨fuel, hf⟩ := h4
    obtain ⟨r, A1, C1, A2, C2, e, h⟩ := open_rule hf
    refine ⟨r, A1, C1, A2, C2, ?_, h⟩
    have e' : cs.toList = [.string r.name, .slice A1 r.pr.length C1, .slice A2 r.pa.length C2] := e
    rw [← Array.toArray_toList (xs := cs), e']
  obtain ⟨a0, deny, cap0, e0, hR0, hl0⟩ : ∃ a rs cap, Value.slice a0' len0 cap0' = .slice a (rs : List Rule).length cap ∧ Rl W a rs ∧ rs.length ≤ maxLen := by
    obtain ⟨fuel, hf⟩ := h0
    exact open_rules (by simpa [Value.cells] using hf)
  obtain ⟨a1, allow, cap1, e1, hR1, hl1⟩ : ∃ a rs cap, Value.slice a1' len1 cap1' = .slice a (rs : List Rule).length cap ∧ Rl W a rs ∧ rs.length ≤ maxLen := by
    obtain ⟨fuel, hf⟩ := h1
    exact open_rules (by simpa [Value.cells] using hf)
  obtain ⟨a2, vs, cap2, e2, hS, hl2⟩ : ∃ a ss cap, Value.slice a2' len2 cap2' = .slice a (ss : List ByteArray).length cap ∧ Ss W a ss ∧ ss.length ≤ maxLen := by
    obtain ⟨fuel, hf⟩ := h2
    exact open_strs (by simpa [Value.cells] using hf)
  clear hA0 hval0
  rw [e4, e0, e1, e2]
  refine (lead4 W r A1 C1 A2 C2 hp1 hp2 hn1 hn2 hn3 a0 deny cap0 a1 allow cap1 hR0 hR1 hl0 hl1 a2 vs cap2 hS hl2 s hs).mono fun e W' ⟨he, bel⟩ => ?_
  subst he
  rw [e0] at k0 hW'
  rw [e1] at k1 hW'
  rw [e2] at k2 hW'
  rw [e4] at k4 hW'
  exact ⟨_, rfl, _, _, _, [], _, [], hW', trodAll_mk1 (shut_bool Try.underlying4 _), (trodAll_cons_mk (Below.trod Try.laidOut4 (by kernel_rfl) (of_decide_eq_true (by kernel_rfl)) k4 bel lt4) (trodAll_mk4 (Below.trod Try.laidOut4 (by kernel_rfl) (of_decide_eq_true (by kernel_rfl)) k0 bel lt0) (Below.trod Try.laidOut4 (by kernel_rfl) (of_decide_eq_true (by kernel_rfl)) k1 bel lt1) (Below.trod Try.laidOut4 (by kernel_rfl) (of_decide_eq_true (by kernel_rfl)) k2 bel lt2) (Below.trod Try.laidOut4 (by kernel_rfl) (of_decide_eq_true (by kernel_rfl)) k3 bel lt3))), rfl, bel.frame _, fun h => by cases h⟩

theorem lead_over : Rows.fnDecideLeadingDenyRuleDecidesFirstRow.holds Try.pinned (OpenSpec.ofChange Rows.fnDecideLeadingDenyRuleDecidesFirstSpec) :=
  OpenClaim.holds_of_wide 4 Try.f4 rfl rfl rfl rfl rfl rfl rfl ⟨rfl, rfl, rfl, rfl, rfl⟩ rfl rfl rfl rfl rfl (by kernel_rfl) Try.func4 (by kernel_rfl)
    (of_decide_eq_true (by kernel_rfl)) (by unfold Func.isWrapper; first | (rw [if_pos (by decide +kernel)]; kernel_rfl) | (rw [if_neg (by decide +kernel)]; exact ⟨rfl, rfl⟩))
    (fun os started H enc _ => lead_lifted os started H enc)

theorem lead_proved : Rows.FnDecideLeadingDenyRuleDecidesFirstSaid := lead_over
end Go.Proofs.Qxb6627205a
