import Derived.Test.Qxb6626875aMem
import Derived.Deep.QuietTactic
import Derived.BigQuiet
namespace Go.Proofs.Qxb6626875a
open Go.RowKit

set_option maxHeartbeats 400000 in
theorem nolead_any (w : World) (a : Option Addr) (ps : List (List Int)) (c : Nat) (hl : ps.length ≤ 1048576) (hP : Pt w a ps) (hne : ps = [] ∨ 0 < (part ps 0).length) :
    Calls Try.prog 12 #[.slice a ps.length c] w fun e w' => e = .returned (.bool true) ∧ w' = w := by
  by_cases h0 : ps = []
  · subst h0
    simp only [List.length_nil]
    go_enter Try.func12, Try.ntmps12
    go_wp2
    go_ret
    exact ⟨rfl, rfl⟩
  · have hlen : 0 < ps.length := List.length_pos_iff.2 h0
    rcases hP with h | ⟨b, o, rfl, hc⟩
    · exact absurd h h0
    obtain ⟨A, C, hcell, hlc, hcm, _, hb⟩ := hc 0 hlen
    have hlen1 : ((ps.length : Int) == 0) = false := by simp; exact h0
    have hlen2 : (0 : Int) < (ps.length : Int) := by omega
    have hp : 0 < (part ps 0).length := by rcases hne with h | h; exact absurd h h0; exact h
    have hp2 : (0 : Int) < ((part ps 0).length : Int) := by omega
    simp only [Nat.add_zero] at hcell
    clear hb hc hne h0
    go_enter Try.func12, Try.ntmps12
    go_wp2
    go_ret
    exact ⟨rfl, rfl⟩
end Go.Proofs.Qxb6626875a
