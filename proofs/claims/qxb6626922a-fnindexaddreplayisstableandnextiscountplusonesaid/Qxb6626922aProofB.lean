import Derived.Test.Qxb6626922aOpen
import Derived.Test.Qxb6626922aRepW
namespace Go.Proofs.Qxb6626922a
open Go.ChangeShapes Go.WideShapes Go.ChangeAt Go.RowKit Go.Deep

theorem replay (w : World) (a : Option Addr) (ds : List (List Value)) (c : Nat) (e : List Value) (he : Dig e) (hl : ds.length ≤ maxLen) (hD : Ds w a ds) :
    Calls Try.prog 4 #[.slice a ds.length c, dv e] w fun r w' => r = .returned (.bool true) ∧ Below w.heap.size w w' := by
  by_cases hok : okN ds.length = true
  · by_cases h : ds.length ≤ 4096
    · exact rep_main w a ds c e he h hD
    · exact rep_big w a ds.length c e he hl (.inr ⟨hok, by omega⟩)
  · exact rep_big w a ds.length c e he hl (.inl (by simpa using hok))

theorem okWide_arr {P : Program} {w : World} {r : Reach} {base n : Nat} {t e : TypeId} {v : Value} (ht : P.underlying t = some (.array n e)) (h : Value.okWide P w r base t v) : ∃ cs, v = .agg cs ∧ cs.size = P.cellsOf t := by
  simp only [Value.okWide, ht] at h
  obtain ⟨cs, h1, h2, _⟩ := h
  exact ⟨cs, h1, h2⟩

set_option maxRecDepth 100000 in
theorem replay_lifted (os : Os) (started : os.Started) (H : Type) (enc : TypeId × Value → H) :
    ReturnsInHanded {} Try.checked os 4 .any (Rows.fnIndexAddReplayIsStableAndNextIsCountPlusOneSpec.pre6 enc Try.prog Try.f4 Rows.fnIndexAddReplayIsStableAndNextIsCountPlusOneRow.domain false) (Rows.fnIndexAddReplayIsStableAndNextIsCountPlusOneSpec.post enc Try.prog Try.f4 false true false false) := by
  refine returnsInHanded_of_change (C := Try.checked) Try.own started (by kernel_rfl) Try.func4
    (ChangeSpec.witness6 (enc := enc) (C := Try.checked) false ⟨#[], #[.slice none 0 0, .agg (Array.replicate 32 (.int .u8 0))], []⟩ 8 (by kernel_rfl) (by kernel_rfl) (by kernel_rfl) (by kernel_rfl)) ?_
  intro W base args ds gs before hval0 hW hcnd _
  have hval : ∀ (j : Nat) t v, Try.f4.params[j]? = some t → args[j]? = some v → Value.okWide Try.prog W .any base t v := hval0
  have hW' := hW
  obtain ⟨p, q, hA0, hV, rfl, hfz, hnd⟩ := hW
  have hA : DataW.TrodAll enc Try.prog W 0 (fun _ => true) true Try.f4.params.toList args.toList ds p := hA0
  rw [Try.params4] at hA hval
  obtain ⟨v0, v1, d0, d1, p0, p1, rfl, rfl, rfl, h0, h1⟩ := trodAll_two hA
  obtain ⟨rfl, rfl⟩ := trodVars_none hV
  obtain ⟨a0, len0, cap0, rfl⟩ := okWide_slice Try.underlying22 (hval 0 22 v0 rfl rfl)
  obtain ⟨cs, rfl, _⟩ := okWide_arr Try.underlying26 (hval 1 26 v1 rfl rfl)
  have k0 := h0
  have k1 := h1
  have lt0 : ∀ x ∈ p0, x.block < W.heap.size := by obtain ⟨m, hm⟩ := k0; exact DataW.trod_lt m _ _ _ hm
  have lt1 : ∀ x ∈ p1, x.block < W.heap.size := by obtain ⟨m, hm⟩ := k1; exact DataW.trod_lt m _ _ _ hm
  obtain ⟨es, hps, hP, hl⟩ : ∃ es : List (List Value), es.length = len0 ∧ Ds W a0 es ∧ len0 ≤ maxLen := by
    obtain ⟨fuel, hf⟩ := h0
    exact open_ds (by simpa [Value.cells] using hf)
  have hdg : Dig cs.toList := by
    obtain ⟨fuel, hf⟩ := h1
    exact dig_of_trod (by simpa [Value.cells] using hf)
  clear hA0 hval0
  subst hps
  refine (replay W a0 es cap0 cs.toList hdg hl hP).mono fun e W' ⟨he, bel⟩ => ?_
  subst he
  exact ⟨_, rfl, _, _, _, [], _, [], hW', trodAll_mk1 (shut_bool Try.underlying4 _), (trodAll_mk2 (Below.trod Try.laidOut (by kernel_rfl) (of_decide_eq_true (by kernel_rfl)) k0 bel lt0) (Below.trod Try.laidOut (by kernel_rfl) (of_decide_eq_true (by kernel_rfl)) k1 bel lt1)), rfl, bel.frame _, fun h => by cases h⟩

theorem replay_over : Rows.fnIndexAddReplayIsStableAndNextIsCountPlusOneRow.holds Try.pinned (OpenSpec.ofChange Rows.fnIndexAddReplayIsStableAndNextIsCountPlusOneSpec) :=
  OpenClaim.holds_of_wide 4 Try.f4 rfl rfl rfl rfl rfl rfl rfl ⟨rfl, rfl, rfl, rfl, rfl⟩ rfl rfl rfl rfl rfl (by kernel_rfl) Try.func4 (by kernel_rfl)
    (of_decide_eq_true (by kernel_rfl)) (by unfold Func.isWrapper; first | (rw [if_pos (by decide +kernel)]; kernel_rfl) | (rw [if_neg (by decide +kernel)]; exact ⟨rfl, rfl⟩))
    (fun os started H enc _ => replay_lifted os started H enc)

theorem replay_proved : Rows.FnIndexAddReplayIsStableAndNextIsCountPlusOneSaid := replay_over
end Go.Proofs.Qxb6626922a
