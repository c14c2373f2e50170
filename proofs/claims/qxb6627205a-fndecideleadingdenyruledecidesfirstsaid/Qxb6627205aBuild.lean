import Derived.Test.Qxb6627205aIndexB
namespace Go.Proofs.Qxb6627205a
open Go.RowKit Go.Maps

attribute [local go_sem ↓] Go.wp_at_zero Go.wp_at_succ

set_option maxHeartbeats 400000 in
theorem new17 (w : World) (s : ByteArray) (A1 A2 : Option Addr) (n1 n2 C1 C2 : Nat) :
    Calls Try.prog 17 #[.string s, .slice A1 n1 C1, .slice A2 n2 C2] w fun e w' => e = .returned (.agg #[.string s, .slice A1 n1 C1, .slice A2 n2 C2, .bool false]) ∧ Below w.heap.size w w' := by
  go_enter Try.func17, Try.ntmps17
  go_wp2
  refine bodyPost_ret (v := .agg #[.string s, .slice A1 n1 C1, .slice A2 n2 C2, .bool false]) (by simp [results, Try.results17, go_sem]) rfl ⟨rfl, ?_⟩
  exact (Below.refl _ _).alloc (Nat.le_refl _) _

set_option maxRecDepth 100000 in
set_option maxHeartbeats 1600000 in
theorem new19 (w : World) (A xa3 xa4 xa5 xa6 ya3 ya4 ya5 ya6 : Option Addr) (N C x0 x1 x2 xn3 xc3 xn4 xc4 xn5 xc5 xn6 xc6 y0 y1 y2 yn3 yc3 yn4 yc4 yn5 yc5 yn6 yc6 : Nat) :
    Calls Try.prog 19 #[.slice A N C, .agg #[.map (some x0), .map (some x1), .map (some x2), .slice xa3 xn3 xc3, .slice xa4 xn4 xc4, .slice xa5 xn5 xc5, .slice xa6 xn6 xc6], .agg #[.map (some y0), .map (some y1), .map (some y2), .slice ya3 yn3 yc3, .slice ya4 yn4 yc4, .slice ya5 yn5 yc5, .slice ya6 yn6 yc6]] w fun e w' => e = .returned (.agg #[.slice A N C, .map (some x0), .map (some x1), .map (some x2), .slice xa3 xn3 xc3, .slice xa4 xn4 xc4, .slice xa5 xn5 xc5, .slice xa6 xn6 xc6, .map (some y0), .map (some y1), .map (some y2), .slice ya3 yn3 yc3, .slice ya4 yn4 yc4, .slice ya5 yn5 yc5, .slice ya6 yn6 yc6]) ∧ Below w.heap.size w w' := by
  go_enter Try.func19, Try.ntmps19
  go_wp2
  refine bodyPost_ret (v := (.agg #[.slice A N C, .map (some x0), .map (some x1), .map (some x2), .slice xa3 xn3 xc3, .slice xa4 xn4 xc4, .slice xa5 xn5 xc5, .slice xa6 xn6 xc6, .map (some y0), .map (some y1), .map (some y2), .slice ya3 yn3 yc3, .slice ya4 yn4 yc4, .slice ya5 yn5 yc5, .slice ya6 yn6 yc6])) (by simp [results, Try.results19, go_sem]) rfl ⟨rfl, ?_⟩
  have h1 : Below w.heap.size w (w.alloc (.cells #[.map (some x0), .map (some x1), .map (some x2), .slice xa3 xn3 xc3, .slice xa4 xn4 xc4, .slice xa5 xn5 xc5, .slice xa6 xn6 xc6] 34)) := (Below.refl _ _).alloc (Nat.le_refl _) _
  have h2 := h1.alloc (o := .cells #[.map (some y0), .map (some y1), .map (some y2), .slice ya3 yn3 yc3, .slice ya4 yn4 yc4, .slice ya5 yn5 yc5, .slice ya6 yn6 yc6] 34) h1.size
  exact h2.alloc h2.size _

set_option maxRecDepth 100000 in
set_option maxHeartbeats 3200000 in
theorem new9 (w : World) (dA dxa3 dxa4 dxa5 dxa6 dya3 dya4 dya5 dya6 eA exa3 exa4 exa5 exa6 eya3 eya4 eya5 eya6 : Option Addr) (dN dC dx0 dx1 dx2 dxn3 dxc3 dxn4 dxc4 dxn5 dxc5 dxn6 dxc6 dy0 dy1 dy2 dyn3 dyc3 dyn4 dyc4 dyn5 dyc5 dyn6 dyc6 eN eC ex0 ex1 ex2 exn3 exc3 exn4 exc4 exn5 exc5 exn6 exc6 ey0 ey1 ey2 eyn3 eyc3 eyn4 eyc4 eyn5 eyc5 eyn6 eyc6 : Nat) :
    Calls Try.prog 9 #[.agg #[.slice dA dN dC, .map (some dx0), .map (some dx1), .map (some dx2), .slice dxa3 dxn3 dxc3, .slice dxa4 dxn4 dxc4, .slice dxa5 dxn5 dxc5, .slice dxa6 dxn6 dxc6, .map (some dy0), .map (some dy1), .map (some dy2), .slice dya3 dyn3 dyc3, .slice dya4 dyn4 dyc4, .slice dya5 dyn5 dyc5, .slice dya6 dyn6 dyc6], .agg #[.slice eA eN eC, .map (some ex0), .map (some ex1), .map (some ex2), .slice exa3 exn3 exc3, .slice exa4 exn4 exc4, .slice exa5 exn5 exc5, .slice exa6 exn6 exc6, .map (some ey0), .map (some ey1), .map (some ey2), .slice eya3 eyn3 eyc3, .slice eya4 eyn4 eyc4, .slice eya5 eyn5 eyc5, .slice eya6 eyn6 eyc6]] w fun e w' => ∃ g, e = .returned (.pointer (some ⟨g, 0, none⟩)) ∧ w'.heap[g]? = some (.cells #[.slice dA dN dC, .map (some dx0), .map (some dx1), .map (some dx2), .slice dxa3 dxn3 dxc3, .slice dxa4 dxn4 dxc4, .slice dxa5 dxn5 dxc5, .slice dxa6 dxn6 dxc6, .map (some dy0), .map (some dy1), .map (some dy2), .slice dya3 dyn3 dyc3, .slice dya4 dyn4 dyc4, .slice dya5 dyn5 dyc5, .slice dya6 dyn6 dyc6, .slice eA eN eC, .map (some ex0), .map (some ex1), .map (some ex2), .slice exa3 exn3 exc3, .slice exa4 exn4 exc4, .slice exa5 exn5 exc5, .slice exa6 exn6 exc6, .map (some ey0), .map (some ey1), .map (some ey2), .slice eya3 eyn3 eyc3, .slice eya4 eyn4 eyc4, .slice eya5 eyn5 eyc5, .slice eya6 eyn6 eyc6] 53) ∧ Below w.heap.size w w' := by
  go_enter Try.func9, Try.ntmps9
  go_wp2
  go_ret
  have h1 : Below w.heap.size w (w.alloc (.cells #[.slice dA dN dC, .map (some dx0), .map (some dx1), .map (some dx2), .slice dxa3 dxn3 dxc3, .slice dxa4 dxn4 dxc4, .slice dxa5 dxn5 dxc5, .slice dxa6 dxn6 dxc6, .map (some dy0), .map (some dy1), .map (some dy2), .slice dya3 dyn3 dyc3, .slice dya4 dyn4 dyc4, .slice dya5 dyn5 dyc5, .slice dya6 dyn6 dyc6] 36)) := (Below.refl _ _).alloc (Nat.le_refl _) _
  have h2 := h1.alloc (o := .cells #[.slice eA eN eC, .map (some ex0), .map (some ex1), .map (some ex2), .slice exa3 exn3 exc3, .slice exa4 exn4 exc4, .slice exa5 exn5 exc5, .slice exa6 exn6 exc6, .map (some ey0), .map (some ey1), .map (some ey2), .slice eya3 eyn3 eyc3, .slice eya4 eyn4 eyc4, .slice eya5 eyn5 eyc5, .slice eya6 eyn6 eyc6] 36) h1.size
  refine ⟨_, rfl, ?_, h2.alloc h2.size _⟩
  have h3 := new_block ((w.alloc (.cells #[.slice dA dN dC, .map (some dx0), .map (some dx1), .map (some dx2), .slice dxa3 dxn3 dxc3, .slice dxa4 dxn4 dxc4, .slice dxa5 dxn5 dxc5, .slice dxa6 dxn6 dxc6, .map (some dy0), .map (some dy1), .map (some dy2), .slice dya3 dyn3 dyc3, .slice dya4 dyn4 dyc4, .slice dya5 dyn5 dyc5, .slice dya6 dyn6 dyc6] 36)).alloc (.cells #[.slice eA eN eC, .map (some ex0), .map (some ex1), .map (some ex2), .slice exa3 exn3 exc3, .slice exa4 exn4 exc4, .slice exa5 exn5 exc5, .slice exa6 exn6 exc6, .map (some ey0), .map (some ey1), .map (some ey2), .slice eya3 eyn3 eyc3, .slice eya4 eyn4 eyc4, .slice eya5 eyn5 eyc5, .slice eya6 eyn6 eyc6] 36)) (.cells #[.slice dA dN dC, .map (some dx0), .map (some dx1), .map (some dx2), .slice dxa3 dxn3 dxc3, .slice dxa4 dxn4 dxc4, .slice dxa5 dxn5 dxc5, .slice dxa6 dxn6 dxc6, .map (some dy0), .map (some dy1), .map (some dy2), .slice dya3 dyn3 dyc3, .slice dya4 dyn4 dyc4, .slice dya5 dyn5 dyc5, .slice dya6 dyn6 dyc6, .slice eA eN eC, .map (some ex0), .map (some ex1), .map (some ex2), .slice exa3 exn3 exc3, .slice exa4 exn4 exc4, .slice exa5 exn5 exc5, .slice exa6 exn6 exc6, .map (some ey0), .map (some ey1), .map (some ey2), .slice eya3 eyn3 eyc3, .slice eya4 eyn4 eyc4, .slice eya5 eyn5 eyc5, .slice eya6 eyn6 eyc6] 53)
  simp only [World.size_alloc] at h3
  exact h3
end Go.Proofs.Qxb6627205a
