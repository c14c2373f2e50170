import Derived.Test.Qxb6627205aScan
namespace Go.Proofs.Qxb6627205a
open Go.RowKit

attribute [local go_sem ↓] Go.wp_at_zero Go.wp_at_succ

set_option maxHeartbeats 400000 in
theorem match36 (w : World) (p : Pat) (v : ByteArray) (hs : p.text.size ≤ maxLen) (hv : v.size ≤ maxLen) :
    Calls Try.prog 36 #[.agg #[.int .u8 p.form, .string p.text], .string v] w fun e w' => e = .returned (.bool (patOK p v)) ∧ Below w.heap.size w w' := by
  have HB : Hid (Below w.heap.size w (w.alloc (.cells #[.int .u8 p.form, .string p.text] 69))) := (Below.refl _ _).alloc (Nat.le_refl _) _
  unfold maxLen at hs hv
  by_cases e3 : p.form = 3
  · have f3 : (p.form == 3) = true := by simp [e3]
    have HE : Hid (p.form = 3) := e3
    clear e3
    go_enter Try.func36, Try.ntmps36
    go_wp2
    go_ret
    exact ⟨ret_bool (patOK3 HE.out).symm, HB.out⟩
  have f3 : (p.form == 3) = false := by simp [e3]
  by_cases e1 : p.form = 1
  · have f1 : (p.form == 1) = true := by simp [e1]
    have HE : Hid (p.form = 1) := e1
    clear e1 e3
    by_cases hle : p.text.size ≤ v.size
    · have hle' : (p.text.size : Int) ≤ (v.size : Int) := by omega
      go_enter Try.func36, Try.ntmps36
      go_wp2
      go_ret
      exact ⟨ret_bool (by rw [patOK1 HE.out, decide_eq_true hle, Bool.true_and]), HB.out⟩
    · have hle' : (v.size : Int) < (p.text.size : Int) := by omega
      go_enter Try.func36, Try.ntmps36
      go_wp2
      go_ret
      exact ⟨ret_bool (by rw [patOK1 HE.out, decide_eq_false hle, Bool.false_and]), HB.out⟩
  have f1 : (p.form == 1) = false := by simp [e1]
  by_cases e2 : p.form = 2
  · have f2 : (p.form == 2) = true := by simp [e2]
    have HE : Hid (p.form = 2) := e2
    clear e1 e3 e2
    by_cases hle : p.text.size ≤ v.size
    · have hle' : (p.text.size : Int) ≤ (v.size : Int) := by omega
      go_enter Try.func36, Try.ntmps36
      go_wp2
      go_ret
      exact ⟨ret_bool (by rw [patOK2 HE.out, decide_eq_true hle, Bool.true_and]), HB.out⟩
    · have hle' : (v.size : Int) < (p.text.size : Int) := by omega
      go_enter Try.func36, Try.ntmps36
      go_wp2
      go_ret
      exact ⟨ret_bool (by rw [patOK2 HE.out, decide_eq_false hle, Bool.false_and]), HB.out⟩
  have f2 : (p.form == 2) = false := by simp [e2]
  have HE : Hid (p.form ≠ 1 ∧ p.form ≠ 2 ∧ p.form ≠ 3) := ⟨e1, e2, e3⟩
  clear e1 e2 e3
  go_enter Try.func36, Try.ntmps36
  go_wp2
  go_ret
  exact ⟨ret_bool (patOK0 HE.out).symm, HB.out⟩

set_option maxHeartbeats 800000 in
theorem any35 (w : World) (a a' : Option Addr) (ps : List Pat) (vs : List ByteArray) (c c' : Nat) (hl : ps.length ≤ maxLen) (hl' : vs.length ≤ maxLen) (hP : Ps w a ps) (hS : Ss w a' vs) :
    Calls Try.prog 35 #[.slice a ps.length c, .slice a' vs.length c'] w fun e w' => e = .returned (.bool (someOK ps vs)) ∧ Below w.heap.size w w' := by
  unfold maxLen at hl hl'
  by_cases h0 : ps.length = 0
  · have hnil : ps = [] := List.eq_nil_of_length_eq_zero h0
    subst hnil
    simp only [List.length_nil]
    go_enter Try.func35, Try.ntmps35
    go_wp2
    go_ret
    exact ⟨ret_bool (someOK_nil vs).symm, Below.refl _ _⟩
  have h0' : ((ps.length : Int) == 0) = false := by simp; exact fun h => h0 (by simp [h])
  have h0p : 0 < ps.length := by omega
  clear h0
  go_enter Try.func35, Try.ntmps35
  go_wp2
  go_loopg [14] (ps.length + 1) (fun gk i wr => ∃ k : Nat, k ≤ ps.length ∧ gk = ps.length + 1 - k ∧ i = .int .i64 k ∧ Hid (∀ (t : Nat) p, t < k → ps[t]? = some p → vs.any (patOK p) = false) ∧ Below w.heap.size w wr)
  case atStart => exact ⟨0, Nat.zero_le _, rfl, rfl, fun t p ht => absurd ht (Nat.not_lt_zero _), Below.refl _ _⟩
  case round =>
    obtain ⟨k, hk, rfl, rfl, HN, hb⟩ := hrel
    by_cases hlt : k < ps.length
    · rcases hP with h | ⟨b, o, rfl, hP⟩
      · simp [h] at hlt
      obtain ⟨p, hp⟩ : ∃ p, ps[k]? = some p := ⟨ps[k], List.getElem?_eq_getElem hlt⟩
      obtain ⟨q1, q2, _, _, q5⟩ := (hP k p hp).below hb
      have HPk : Hid (ps[k]? = some p) := hp
      have hkl : (k : Int) < (ps.length : Int) := by omega
      clear hP hp
      go_wp2_with fail
      have HB0 : Hid (Below w.heap.size w (wr.alloc (.cells #[.int .u8 p.form, .string p.text] 69))) := hb.alloc hb.size _
      have HC0 : Hid ((wr.alloc (.cells #[.int .u8 p.form, .string p.text] 69)).cell? ⟨wr.heap.size, 0, none⟩ = some (.int .u8 p.form) ∧ (wr.alloc (.cells #[.int .u8 p.form, .string p.text] 69)).cell? ⟨wr.heap.size, 1, none⟩ = some (.string p.text)) := by
        constructor
        · rw [World.cell?_alloc_new]; rfl
        · rw [World.cell?_alloc_new]; rfl
      clear hb q1 q2
      generalize wr.alloc (.cells #[.int .u8 p.form, .string p.text] 69) = W0 at *
      generalize wr.heap.size = N at *
      go_loopg [20] (vs.length + 1) (fun gk i wr => ∃ j : Nat, j ≤ vs.length ∧ gk = vs.length + 1 - j ∧ i = .int .i64 j ∧ Hid (∀ (t : Nat) v, t < j → vs[t]? = some v → patOK p v = false) ∧ Below w.heap.size w wr ∧ wr.cell? ⟨N, 0, none⟩ = some (.int .u8 p.form) ∧ wr.cell? ⟨N, 1, none⟩ = some (.string p.text))
      case atStart => exact ⟨0, Nat.zero_le _, rfl, rfl, fun t v ht => absurd ht (Nat.not_lt_zero _), HB0.out, HC0.out.1, HC0.out.2⟩
      case round =>
        obtain ⟨j, hj, rfl, rfl, HM, hb, q1, q2⟩ := hrel
        by_cases hjl : j < vs.length
        · rcases hS with h | ⟨b2, o2, rfl, hS⟩
          · simp [h] at hjl
          obtain ⟨v, hv⟩ : ∃ v, vs[j]? = some v := ⟨vs[j], List.getElem?_eq_getElem hjl⟩
          obtain ⟨s1, s2⟩ := hS j v hv
          have HV : Hid (vs[j]? = some v) := hv
          have hjl' : (j : Int) < (vs.length : Int) := by omega
          have q3 : wr.cell? ⟨b2, o2 + j, none⟩ = some (.string v) := (hb.cell (block_lt_of_cell s1)).trans s1
          clear hS hv s1
          cases hres : patOK p v with
          | true =>
            have HR : Hid (patOK p v = true) := hres
            clear hres
            go_wp2_with fail
            refine (match36 _ p v q5 s2).mono ?_
            rw [HR.out]
            rintro e w1 ⟨rfl, hb1⟩
            clear q1 q2 q3
            go_wp2
            go_ret
            exact ⟨ret_bool (someOK_true HPk.out HV.out HR.out).symm, hb.trans (hb1.mono hb.size)⟩
          | false =>
            have HR : Hid (patOK p v = false) := hres
            clear hres
            go_wp2_with fail
            refine (match36 _ p v q5 s2).mono ?_
            rw [HR.out]
            rintro e w1 ⟨rfl, hb1⟩
            have hb2 := hb.trans (hb1.mono hb.size)
            have HQ : Hid (w1.cell? ⟨N, 0, none⟩ = some (.int .u8 p.form) ∧ w1.cell? ⟨N, 1, none⟩ = some (.string p.text)) := ⟨(hb1.cell (block_lt_of_cell q1)).trans q1, (hb1.cell (block_lt_of_cell q2)).trans q2⟩
            clear q1 q2 q3 hb1
            go_wp2
            go_roundg (vs.length + 1 - (j + 1))
            case rel => exact ⟨j + 1, by omega, rfl, by go_num, fun t u ht hu => by
                          by_cases e1 : t = j
                          · subst e1; rw [HV.out] at hu; cases hu; exact HR.out
                          · exact HM.out t u (by omega) hu, hb2, HQ.out.1, HQ.out.2⟩
            case measure => omega
        · clear q1 q2
          go_wp2
          go_roundg (ps.length + 1 - (k + 1))
          case rel => exact ⟨k + 1, by omega, rfl, by go_num, fun t q ht hq => by
                        by_cases e1 : t = k
                        · subst e1; rw [HPk.out] at hq; cases hq; exact any_false_at vs _ fun t v h1 h2 => HM.out t v (by omega) h2
                        · exact HN.out t q (by omega) hq, hb⟩
          case measure => omega
    · go_wp2
      go_ret
      exact ⟨ret_bool (someOK_false h0p fun t p h1 h2 => HN.out t p (by omega) h2).symm, hb⟩

set_option maxHeartbeats 800000 in
theorem matches32 (w : World) (b o : Nat) (r : Rule) (a' : Option Addr) (c' : Nat) (vs : List ByteArray) (m : ByteArray) (hR : R1 w b o r) (hl' : vs.length ≤ maxLen) (hm : m.size ≤ maxLen) (hS : Ss w a' vs) :
    Calls Try.prog 32 #[.pointer (some ⟨b, o, none⟩), .slice a' vs.length c', .string m] w fun e w' => e = .returned (.bool (ruleOK vs m r)) ∧ Below w.heap.size w w' := by
  obtain ⟨A1, C1, A2, C2, c1, c2, c3, p1, p2, n1, n2, n3⟩ := hR
  have HP : Hid (Ps w A1 r.pr ∧ Ps w A2 r.pa) := ⟨p1, p2⟩
  have HSs : Hid (Ss w a' vs) := hS
  clear p1 p2 hS c1
  cases hres : someOK r.pr vs with
  | false =>
    have HR : Hid (someOK r.pr vs = false) := hres
    clear hres
    go_enter Try.func32, Try.ntmps32
    go_wp2_with fail
    refine (any35 _ A1 a' r.pr vs C1 c' n2 hl' HP.out.1 HSs.out).mono ?_
    rw [HR.out]
    rintro e w1 ⟨rfl, hb1⟩
    go_wp2
    go_ret
    exact ⟨ret_bool (by simp [ruleOK, HR.out]), hb1⟩
  | true =>
    have HR : Hid (someOK r.pr vs = true) := hres
    clear hres
    go_enter Try.func32, Try.ntmps32
    go_wp2_with fail
    refine (any35 _ A1 a' r.pr vs C1 c' n2 hl' HP.out.1 HSs.out).mono ?_
    rw [HR.out]
    rintro e w1 ⟨rfl, hb1⟩
    have hc3 : w1.cell? ⟨b, o + 2, none⟩ = some (.slice A2 r.pa.length C2) := (hb1.cell (block_lt_of_cell c3)).trans c3
    have HP2' : Hid (Ps w1 A2 r.pa) := HP.out.2.below hb1
    go_wp2_with fail
    refine (any35 _ A2 (some ⟨w1.heap.size, 0, none⟩) r.pa [m] C2 1 n3 (by unfold maxLen; simp) (by exact HP2'.out.below ((Below.refl _ _).alloc (Nat.le_refl _) _)) (by exact .inr ⟨w1.heap.size, 0, rfl, fun k s hk => by
      cases k with
      | zero => simp at hk; subst hk; exact ⟨by rw [Nat.zero_add, World.cell?_alloc_new]; rfl, hm⟩
      | succ k => simp at hk⟩)).mono ?_
    rintro e w2 ⟨rfl, hb2⟩
    have HB2 : Hid (Below w.heap.size w w2) := (hb1.alloc hb1.size _).trans (hb2.mono (by have := hb1.size; simp; omega))
    clear hb2
    go_wp2
    go_ret
    exact ⟨ret_bool (by simp [ruleOK, HR.out]), HB2.out⟩
end Go.Proofs.Qxb6627205a
