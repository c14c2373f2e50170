import Derived.Test.Qxb6627205aGuard
namespace Go.Proofs.Qxb6627205a
open Go.RowKit

theorem below_drewN {N : Nat} {a w : World} (h : Below N a w) (n : Nat) : Below N a (w.drewN n) := ⟨h.os, h.tape, h.output, h.size, h.block⟩

set_option maxHeartbeats 400000 in
theorem pat33 (w : World) (p : Pat) (v : ByteArray) (hs : p.text.size ≤ maxLen) (hv : v.size ≤ maxLen) :
    Calls Try.prog 33 #[.agg #[.int .u8 p.form, .string p.text], .string v] w fun e w' => e = .returned (.bool (patOK p v)) ∧ Below w.heap.size w w' := by
  have HB : Hid (Below w.heap.size w (w.alloc (.cells #[.int .u8 p.form, .string p.text] 51))) := (Below.refl _ _).alloc (Nat.le_refl _) _
  unfold maxLen at hs hv
  by_cases e3 : p.form = 3
  · have f3 : (p.form == 3) = true := by simp [e3]
    have HE : Hid (p.form = 3) := e3
    clear e3
    go_enter Try.func33, Try.ntmps33
    go_wp2
    go_ret
    exact ⟨ret_bool (patOK3 HE.out).symm, HB.out⟩
  have f3 : (p.form == 3) = false := by simp [e3]
  by_cases e1 : p.form = 1
  · have f1 : (p.form == 1) = true := by simp [e1]
    have HE : Hid (p.form = 1) := e1
    clear e1 e3
    by_cases hle : p.text.size ≤ v.size
    · have hle' : (p.text.size : Int) ≤ (v.size : Int) := by omega
      have hd : decide ((p.text.size : Int) ≤ (v.size : Int)) = true := by simpa using hle
      go_enter Try.func33, Try.ntmps33
      go_wp2
      go_quiet (fail)
      go_wp2
      go_ret
      exact ⟨ret_bool (by rw [patOK1 HE.out, decide_eq_true hle, Bool.true_and]), below_drewN HB.out _⟩
    · have hd : decide ((p.text.size : Int) ≤ (v.size : Int)) = false := by simp; omega
      go_enter Try.func33, Try.ntmps33
      go_wp2
      go_quiet (fail)
      go_wp2
      go_ret
      exact ⟨ret_bool (by rw [patOK1 HE.out, decide_eq_false hle, Bool.false_and]), below_drewN HB.out _⟩
  have f1 : (p.form == 1) = false := by simp [e1]
  by_cases e2 : p.form = 2
  · have f2 : (p.form == 2) = true := by simp [e2]
    have HE : Hid (p.form = 2) := e2
    clear e1 e3 e2
    by_cases hle : p.text.size ≤ v.size
    · have hle' : (p.text.size : Int) ≤ (v.size : Int) := by omega
      have hd : decide ((p.text.size : Int) ≤ (v.size : Int)) = true := by simpa using hle
      go_enter Try.func33, Try.ntmps33
      go_wp2
      go_quiet (fail)
      go_wp2
      go_ret
      exact ⟨ret_bool (by rw [patOK2 HE.out, decide_eq_true hle, Bool.true_and]), below_drewN HB.out _⟩
    · have hd : decide ((p.text.size : Int) ≤ (v.size : Int)) = false := by simp; omega
      go_enter Try.func33, Try.ntmps33
      go_wp2
      go_quiet (fail)
      go_wp2
      go_ret
      exact ⟨ret_bool (by rw [patOK2 HE.out, decide_eq_false hle, Bool.false_and]), below_drewN HB.out _⟩
  have f2 : (p.form == 2) = false := by simp [e2]
  have HE : Hid (p.form ≠ 1 ∧ p.form ≠ 2 ∧ p.form ≠ 3) := ⟨e1, e2, e3⟩
  clear e1 e2 e3
  go_enter Try.func33, Try.ntmps33
  go_wp2
  go_ret
  exact ⟨ret_bool (patOK0 HE.out).symm, HB.out⟩
end Go.Proofs.Qxb6627205a
