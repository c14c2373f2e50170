import Derived.Test.Qxb6626875aOpen
import Derived.Test.Qxb6626875aCutM
namespace Go.Proofs.Qxb6626875a
open Go.ChangeShapes Go.WideShapes Go.ChangeAt Go.RowKit Go.Deep

theorem cutAgrees (w : World) (a0 : Option Addr) (ps : List (List Int)) (c : Nat) (x y : Int) (hl : ps.length ≤ maxLen) (hn : a0 = none → c = 0) (hP : Pt w a0 ps) :
    Calls Try.prog 4 #[.slice a0 ps.length c, .int .i64 x, .int .i64 y] w fun e w' => e = .returned (.bool true) ∧ Below w.heap.size w w' := by
  by_cases hok : ps.length + tot ps ≤ 1048576
  · by_cases hsz : szB ps = true
    · by_cases hx : 0 ≤ x ∧ x ≤ ps.length
      · obtain ⟨h1, h2⟩ := hx
        obtain ⟨i, rfl⟩ : ∃ n : Nat, x = n := ⟨x.toNat, by omega⟩
        exact cut_main w a0 ps c i y hn hok hP hsz (by omega)
      · exact cut_size w a0 ps c x y hok hP (.inr ⟨hsz, by omega⟩)
    · exact cut_size w a0 ps c x y hok hP (.inl (by simpa using hsz))
  · exact cut_big w a0 ps c x y hl hP (okB_false (by omega))

set_option maxRecDepth 100000 in
theorem cutAgrees_lifted (os : Os) (started : os.Started) (H : Type) (enc : TypeId × Value → H) :
    ReturnsInHanded {} Try.checked os 4 .any (Rows.fnAdvanceCutAgreesSpec.pre6 enc Try.prog Try.f4 Rows.fnAdvanceCutAgreesRow.domain false) (Rows.fnAdvanceCutAgreesSpec.post enc Try.prog Try.f4 false true false false) := by
  refine returnsInHanded_of_change (C := Try.checked) Try.own started (by kernel_rfl) Try.func4
    (ChangeSpec.witness6 (enc := enc) (C := Try.checked) false ⟨#[], #[.slice none 0 0, .int .i64 0, .int .i64 0], []⟩ 8 (by kernel_rfl) (by kernel_rfl) (by kernel_rfl) (by kernel_rfl)) ?_
  intro W base args ds gs before hval0 hW hcnd _
  have hval : ∀ (j : Nat) t v, Try.f4.params[j]? = some t → args[j]? = some v → Value.okWide Try.prog W .any base t v := hval0
  have hW' := hW
  obtain ⟨p, q, hA0, hV, rfl, hfz, hnd⟩ := hW
  have hA : DataW.TrodAll enc Try.prog W 0 (fun _ => true) true Try.f4.params.toList args.toList ds p := hA0
  rw [Try.params4] at hA hval
  obtain ⟨v0, vs0, d0, ds0, p0, q0, hargs, rfl, rfl, h0, r0⟩ := trodAll_cons hA
  obtain ⟨v1, vs1, d1, ds1, p1, q1, rfl, rfl, rfl, h1, r1⟩ := trodAll_cons r0
  obtain ⟨v2, vs2, d2, ds2, p2, q2, rfl, rfl, rfl, h2, r2⟩ := trodAll_cons r1
  obtain ⟨rfl, rfl, rfl⟩ := trodAll_nil r2
  obtain rfl : args = #[v0, v1, v2] := by cases args; simp_all
  obtain ⟨rfl, rfl⟩ := trodVars_none hV
  obtain ⟨a0, len0, cap0, rfl⟩ := okWide_slice Try.underlying22 (hval 0 22 v0 rfl rfl)
  have k0 := h0
  have lt0 : ∀ x ∈ p0, x.block < W.heap.size := by obtain ⟨m, hm⟩ := k0; exact DataW.trod_lt m _ _ _ hm
  obtain ⟨ps, hps, hP, hl, hn⟩ : ∃ ps : List (List Int), ps.length = len0 ∧ Pt W a0 ps ∧ len0 ≤ maxLen ∧ (a0 = none → cap0 = 0) := by
    obtain ⟨fuel, hf⟩ := h0
    exact open_parts (by simpa [Value.cells] using hf)
  obtain ⟨a1, rfl, rfl, rfl, w1⟩ := open_int Try.underlying3 (hval 1 3 v1 rfl rfl) h1
  obtain ⟨a2, rfl, rfl, rfl, w2⟩ := open_int Try.underlying3 (hval 2 3 v2 rfl rfl) h2
  clear hA0 hval0
  subst hps
  refine (cutAgrees W a0 ps cap0 a1 a2 hl hn hP).mono fun e W' ⟨he, bel⟩ => ?_
  subst he
  exact ⟨_, rfl, _, _, _, [], _, [], hW', trodAll_mk1 (shut_bool Try.underlying4 _), (trodAll_mk3 (Below.trod Try.laidOut (by kernel_rfl) (of_decide_eq_true (by kernel_rfl)) k0 bel lt0) (shut_int Try.underlying3 w1) (shut_int Try.underlying3 w2)), rfl, bel.frame _, fun h => by cases h⟩

theorem cutAgrees_over : Rows.fnAdvanceCutAgreesRow.holds Try.pinned (OpenSpec.ofChange Rows.fnAdvanceCutAgreesSpec) :=
  OpenClaim.holds_of_wide 4 Try.f4 rfl rfl rfl rfl rfl rfl rfl ⟨rfl, rfl, rfl, rfl, rfl⟩ rfl rfl rfl rfl rfl (by kernel_rfl) Try.func4 (by kernel_rfl)
    (of_decide_eq_true (by kernel_rfl)) (by unfold Func.isWrapper; first | (rw [if_pos (by decide +kernel)]; kernel_rfl) | (rw [if_neg (by decide +kernel)]; exact ⟨rfl, rfl⟩))
    (fun os started H enc _ => cutAgrees_lifted os started H enc)

theorem cutAgrees_proved : Rows.FnAdvanceCutAgreesSaid := cutAgrees_over
end Go.Proofs.Qxb6626875a
