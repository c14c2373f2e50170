import Derived.Test.Qxb6626922aOpen
import Derived.Test.Qxb6626922aFirst
namespace Go.Proofs.Qxb6626922a
open Go.ChangeShapes Go.WideShapes Go.ChangeAt Go.RowKit Go.Deep

theorem firstModel (w : World) (a : Option Addr) (ds : List (List Value)) (c : Nat) (hl : ds.length ≤ maxLen) (hD : Ds w a ds) :
    Calls Try.prog 3 #[.slice a ds.length c] w fun e w' => e = .returned (.bool true) ∧ Below w.heap.size w w' := by
  by_cases hok : okN ds.length = true
  · by_cases h : ds.length ≤ 4096
    · exact first_main w a ds c h hD
    · exact first_big w a ds.length c hl (.inr ⟨hok, by omega⟩)
  · exact first_big w a ds.length c hl (.inl (by simpa using hok))

set_option maxRecDepth 100000 in
theorem first_lifted (os : Os) (started : os.Started) (H : Type) (enc : TypeId × Value → H) :
    ReturnsInHanded {} Try.checked os 3 .any (Rows.fnIndexAddMatchesFirstOccurrenceModelSpec.pre6 enc Try.prog Try.f3 Rows.fnIndexAddMatchesFirstOccurrenceModelRow.domain false) (Rows.fnIndexAddMatchesFirstOccurrenceModelSpec.post enc Try.prog Try.f3 false true false false) := by
  refine returnsInHanded_of_change (C := Try.checked) Try.own started (by kernel_rfl) Try.func3
    (ChangeSpec.witness6 (enc := enc) (C := Try.checked) false ⟨#[], #[.slice none 0 0], []⟩ 8 (by kernel_rfl) (by kernel_rfl) (by kernel_rfl) (by kernel_rfl)) ?_
  intro W base args ds gs before hval0 hW hcnd _
  have hval : ∀ (j : Nat) t v, Try.f3.params[j]? = some t → args[j]? = some v → Value.okWide Try.prog W .any base t v := hval0
  have hW' := hW
  obtain ⟨p, q, hA0, hV, rfl, hfz, hnd⟩ := hW
  have hA : DataW.TrodAll enc Try.prog W 0 (fun _ => true) true Try.f3.params.toList args.toList ds p := hA0
  rw [Try.params3] at hA hval
  obtain ⟨v0, d0, rfl, rfl, h0⟩ := trodAll_one hA
  obtain ⟨rfl, rfl⟩ := trodVars_none hV
  obtain ⟨a0, len0, cap0, rfl⟩ := okWide_slice Try.underlying22 (hval 0 22 v0 rfl rfl)
  have k0 := h0
  have lt0 : ∀ x ∈ p, x.block < W.heap.size := by obtain ⟨m, hm⟩ := k0; exact DataW.trod_lt m _ _ _ hm
  obtain ⟨es, hps, hP, hl⟩ : ∃ es : List (List Value), es.length = len0 ∧ Ds W a0 es ∧ len0 ≤ maxLen := by
    obtain ⟨fuel, hf⟩ := h0
    exact open_ds (by simpa [Value.cells] using hf)
  clear hA0 hval0
  subst hps
  refine (firstModel W a0 es cap0 hl hP).mono fun e W' ⟨he, bel⟩ => ?_
  subst he
  exact ⟨_, rfl, _, _, _, [], _, [], hW', trodAll_mk1 (shut_bool Try.underlying4 _), (trodAll_mk1 (Below.trod Try.laidOut (by kernel_rfl) (of_decide_eq_true (by kernel_rfl)) k0 bel lt0)), rfl, bel.frame _, fun h => by cases h⟩

theorem first_over : Rows.fnIndexAddMatchesFirstOccurrenceModelRow.holds Try.pinned (OpenSpec.ofChange Rows.fnIndexAddMatchesFirstOccurrenceModelSpec) :=
  OpenClaim.holds_of_wide 3 Try.f3 rfl rfl rfl rfl rfl rfl rfl ⟨rfl, rfl, rfl, rfl, rfl⟩ rfl rfl rfl rfl rfl (by kernel_rfl) Try.func3 (by kernel_rfl)
    (of_decide_eq_true (by kernel_rfl)) (by unfold Func.isWrapper; first | (rw [if_pos (by decide +kernel)]; kernel_rfl) | (rw [if_neg (by decide +kernel)]; exact ⟨rfl, rfl⟩))
    (fun os started H enc _ => first_lifted os started H enc)

theorem first_proved : Rows.FnIndexAddMatchesFirstOccurrenceModelSaid := first_over
end Go.Proofs.Qxb6626922a
