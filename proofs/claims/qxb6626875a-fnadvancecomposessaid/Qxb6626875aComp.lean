import Derived.Test.Qxb6626875aLaws
import Derived.Deep.RegionWith
namespace Go.Proofs.Qxb6626875a
open Go.RowKit

set_option maxHeartbeats 800000 in
theorem comp_big (w : World) (a0 : Option Addr) (ps : List (List Int)) (c : Nat) (x y : Int) (hl : ps.length ≤ maxLen) (hP : Pt w a0 ps) (hok : okB ps = false) :
    Calls Try.prog 3 #[.slice a0 ps.length c, .int .i64 x, .int .i64 y] w fun e w' => e = .returned (.bool true) ∧ Below w.heap.size w w' := by
  have HC := bytes5 w a0 ps c x y hl hP
  rw [hok] at HC
  have HH : Hid (Calls Try.prog 5 #[.slice a0 ps.length c, .int .i64 x, .int .i64 y] w fun e w' => e = .returned (.bool false) ∧ w' = w) := HC
  clear HC hok hP
  go_enter Try.func3, Try.ntmps3
  go_wp2_with fail
  refine HH.out.mono ?_
  rintro e w' ⟨rfl, rfl⟩
  go_wp2
  go_ret
  exact ⟨rfl, Below.refl _ _⟩

set_option maxHeartbeats 800000 in
theorem comp_size (w : World) (a0 : Option Addr) (ps : List (List Int)) (c : Nat) (x y : Int) (hok : ps.length + tot ps ≤ 1048576) (hP : Pt w a0 ps) (hsz : szB ps = false ∨ (szB ps = true ∧ (x < 0 ∨ y < 0 ∨ tot ps < x ∨ tot ps - x < y))) :
    Calls Try.prog 3 #[.slice a0 ps.length c, .int .i64 x, .int .i64 y] w fun e w' => e = .returned (.bool true) ∧ Below w.heap.size w w' := by
  have HC := bytes5 w a0 ps c x y (by unfold maxLen; omega) hP
  rw [okB_true hok] at HC
  have HH : Hid (Calls Try.prog 5 #[.slice a0 ps.length c, .int .i64 x, .int .i64 y] w fun e w' => e = .returned (.bool true) ∧ w' = w) := HC
  have HS := size6 w a0 ps c hok hP
  clear HC hP
  rcases hsz with hsz | ⟨hsz, hxy⟩
  · have hN : szN ps = 0 := by simp [szN, hsz]
    rw [hN, hsz] at HS
    have HS' : Hid (Calls Try.prog 6 #[.slice a0 ps.length c] w fun e w' => e = .returned (.tuple #[.int .i64 0, .bool false]) ∧ w' = w) := HS
    clear HS hN hsz
    go_enter Try.func3, Try.ntmps3
    go_wp2_with fail
    refine HH.out.mono ?_
    rintro e w' ⟨rfl, rfl⟩
    go_wp2_with fail
    refine HS'.out.mono ?_
    rintro e w' ⟨rfl, rfl⟩
    go_wp2
    go_ret
    exact ⟨rfl, Below.refl _ _⟩
  · have hN : szN ps = tot ps := by simp [szN, hsz]
    rw [hN, hsz] at HS
    have HS' : Hid (Calls Try.prog 6 #[.slice a0 ps.length c] w fun e w' => e = .returned (.tuple #[.int .i64 (tot ps), .bool true]) ∧ w' = w) := HS
    clear HS hN hsz
    by_cases hx : x < 0
    · clear hxy
      go_enter Try.func3, Try.ntmps3
      go_wp2_with fail
      refine HH.out.mono ?_
      rintro e w' ⟨rfl, rfl⟩
      go_wp2_with fail
      refine HS'.out.mono ?_
      rintro e w' ⟨rfl, rfl⟩
      go_wp2
      go_ret
      exact ⟨rfl, Below.refl _ _⟩
    by_cases hy : y < 0
    · clear hxy
      have hx' : 0 ≤ x := by omega
      clear hx
      go_enter Try.func3, Try.ntmps3
      go_wp2_with fail
      refine HH.out.mono ?_
      rintro e w' ⟨rfl, rfl⟩
      go_wp2_with fail
      refine HS'.out.mono ?_
      rintro e w' ⟨rfl, rfl⟩
      go_wp2
      go_ret
      exact ⟨rfl, Below.refl _ _⟩
    by_cases ht : tot ps < x
    · clear hxy
      have hx' : 0 ≤ x := by omega
      have hy' : 0 ≤ y := by omega
      clear hx hy
      go_enter Try.func3, Try.ntmps3
      go_wp2_with fail
      refine HH.out.mono ?_
      rintro e w' ⟨rfl, rfl⟩
      go_wp2_with fail
      refine HS'.out.mono ?_
      rintro e w' ⟨rfl, rfl⟩
      go_wp2
      go_ret
      exact ⟨rfl, Below.refl _ _⟩
    have ht2 : (tot ps : Int) - x < y := by omega
    have hx' : 0 ≤ x := by omega
    have hy' : 0 ≤ y := by omega
    have ht' : x ≤ tot ps := by omega
    clear hx hy hxy ht
    go_enter Try.func3, Try.ntmps3
    go_wp2_with fail
    refine HH.out.mono ?_
    rintro e w' ⟨rfl, rfl⟩
    go_wp2_with fail
    refine HS'.out.mono ?_
    rintro e w' ⟨rfl, rfl⟩
    go_wp2
    go_ret
    exact ⟨rfl, Below.refl _ _⟩

end Go.Proofs.Qxb6626875a
