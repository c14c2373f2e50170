import Derived.Test.Qxb6627205aMake
namespace Go.Proofs.Qxb6627205a
open Go.RowKit

attribute [local go_sem ↓] Go.wp_at_zero Go.wp_at_succ

def ints (l : List Int) : List Value := l.map (Value.int .i64)
/-- One owned row of numbers has become another. -/
structure Step (base : Nat) (w w' : World) (v v' : Value) (l' : List Int) : Prop where
  own : w'.ownsRow base 3 1 v' l'.length (ints l')
  grown : w.grownBy w' v.ownBlock
  blk : v'.ownBlock = v.ownBlock ∨ ∃ g, v'.ownBlock = some g ∧ w.heap.size ≤ g

def addP (l : List Int) (i : Int) : List Int := if l.getLast? = some i then l else l ++ [i]

theorem ints_get (l : List Int) (j : Nat) (h : j < l.length) : (ints l)[j]? = some (.int .i64 (l.getD j 0)) := by simp [ints, h]
theorem ints_snoc (l : List Int) (x : Int) : ints l ++ [.int .i64 x] = ints (l ++ [x]) := by simp [ints]

set_option maxHeartbeats 800000 in
theorem add27 (w : World) (base : Nat) (v : Value) (l : List Int) (i : Int) (hown : w.ownsRow base 3 1 v l.length (ints l)) (hl : l.length ≤ 4194304) (hb : base ≤ w.heap.size) :
    Calls Try.prog 27 #[v, .int .i64 i] w fun e w' => ∃ v', e = .returned v' ∧ Step base w w' v v' (addP l i) := by
  obtain ⟨i0, hi, hz0, hz1, hz2⟩ := info_parts Try.info3
  have hgrow : ∀ (hne : l.getLast? ≠ some i), addP l i = l ++ [i] := fun h => by simp [addP, h]
  rcases hown.2 with ⟨h1, h2⟩ | ⟨g, cap, cur, h1, h2, h3, h4, h5, _⟩
  · subst h1
    have hnil : l = [] := List.eq_nil_of_length_eq_zero h2
    subst hnil
    have HA : Hid (addP [] i = [i]) := by show addP [] i = [i]; simp [addP]
    clear hgrow h2
    go_enter Try.func27, Try.ntmps27
    go_wp2_with (first
      | (at_builtin; refine wpList_append_lies _ rfl _ _ 32 rfl base 3 i0 (.int .i64 0) 1 8 Try.underlying32 hi hz0 hz1 hz2 rfl (by omega) (.slice none 0 0) 0 [] rfl (World.ownsRow_nil _ _ _ _) ⟨w.heap.size, 0, none⟩ 1 1 [.int .i64 i] rfl rfl ?c1 ?c2 (by omega) (by unfold maxLen; omega) (by omega) ?c3 (w.heap.size + 1) ?c4 ?_))
    case c1 => exact cell_one_new w _ _
    case c2 => intro u hu; simp at hu; subst hu; rfl
    case c3 => simp; omega
    case c4 => simp
    intro g cap w1 hown1 hgrow1 hat1 hlt1
    have HS : Hid (Step base w w1 (.slice none 0 0) (.slice (some ⟨g, 0, none⟩) 1 cap) [i]) := by
      refine ⟨by simpa [ints] using hown1, (World.grownBy_alloc w _ _).trans hgrow1, .inr ⟨g, rfl, ?_⟩⟩
      rcases hat1 with h | h
      · simp [Value.ownBlock] at h
      · omega
    clear hown1 hgrow1 hat1 hlt1
    go_wp2
    go_ret
    exact ⟨_, rfl, by rw [HA.out]; exact HS.out⟩
  · subst h1
    by_cases h0 : l.length = 0
    · have hnil : l = [] := List.eq_nil_of_length_eq_zero h0
      subst hnil
      have HA : Hid (addP [] i = [] ++ [i]) := by show addP [] i = [] ++ [i]; simp [addP]
      simp only [List.length_nil] at hown hl ⊢
      clear hgrow h4 h0 h3
      go_enter Try.func27, Try.ntmps27
      go_wp2_with (first
        | (at_builtin; refine wpList_append_lies _ rfl _ _ 32 rfl base 3 i0 (.int .i64 0) 1 8 Try.underlying32 hi hz0 hz1 hz2 rfl (by omega) (.slice (some ⟨g, 0, none⟩) 0 cap) 0 (ints []) rfl (by exact hown.alloc _) ⟨w.heap.size, 0, none⟩ 1 1 [.int .i64 i] rfl rfl ?c1A ?c2A (by omega) (by unfold maxLen; omega) (by omega) ?c3A (w.heap.size + 1) ?c4A ?_))
      case c1A => exact cell_one_new w _ _
      case c2A => intro u hu; simp at hu; subst hu; rfl
      case c3A => simp; omega
      case c4A => simp
      intro g2 cap2 w1 hown1 hgrow1 hat1 hlt1
      have HS : Hid (Step base w w1 (.slice (some ⟨g, 0, none⟩) 0 cap) (.slice (some ⟨g2, 0, none⟩) (0 + 1) cap2) ([] ++ [i])) := by
        refine ⟨by rw [ints_snoc] at hown1; simpa using hown1, (World.grownBy_alloc w _ _).trans hgrow1, ?_⟩
        rcases hat1 with h | h
        · exact .inl h.symm
        · exact .inr ⟨g2, rfl, by omega⟩
      clear hown1 hgrow1 hat1 hlt1
      go_wp2
      go_ret
      exact ⟨_, rfl, by rw [HA.out]; exact HS.out⟩
    · have hp : (0 : Int) < (l.length : Int) := by omega
      obtain ⟨x, hx⟩ : ∃ x, l.getLast? = some x := ⟨l.getLast (by intro h; simp [h] at h0), List.getLast?_eq_some_getLast _⟩
      have hcell : w.cell? ⟨g, l.length - 1, none⟩ = some (.int .i64 x) := by
        rw [hown.cellAt (l.length - 1) (by omega)]
        rw [List.getLast?_eq_getElem?] at hx
        simp [ints, hx]
      have htn : ((l.length : Int) - 1).toNat = l.length - 1 := by omega
      have hlt1 : (l.length : Int) - 1 < (l.length : Int) := by omega
      have hge1 : 0 ≤ (l.length : Int) - 1 := by omega
      by_cases hxi : x = i
      · subst hxi
        have HA : Hid (addP l x = l) := by show addP l x = l; simp [addP, hx]
        clear hgrow h0 h3 hx
        have HOW : Hid (w.ownsRow base 3 1 (.slice (some ⟨g, 0, none⟩) l.length cap) l.length (ints l)) := hown
        clear hown
        go_enter Try.func27, Try.ntmps27
        go_wp2
        go_ret
        exact ⟨_, rfl, by rw [HA.out]; exact ⟨HOW.out, World.grownBy.refl _ _, .inl rfl⟩⟩
      · have hxb : (x == i) = false := by simp [hxi]
        have HA : Hid (addP l i = l ++ [i]) := hgrow (by rw [hx]; intro h; exact hxi (Option.some.inj h))
        clear hgrow h0 h3 hx hxi
        go_enter Try.func27, Try.ntmps27
        go_wp2_with (first
          | (at_builtin; refine wpList_append_lies _ rfl _ _ 32 rfl base 3 i0 (.int .i64 0) 1 8 Try.underlying32 hi hz0 hz1 hz2 rfl (by omega) (.slice (some ⟨g, 0, none⟩) l.length cap) l.length (ints l) rfl (by exact hown.alloc _) ⟨w.heap.size, 0, none⟩ 1 1 [.int .i64 i] rfl rfl ?c1B ?c2B (by omega) (by unfold maxLen; omega) (by omega) ?c3B (w.heap.size + 1) ?c4B ?_))
        case c1B => exact cell_one_new w _ _
        case c2B => intro u hu; simp at hu; subst hu; rfl
        case c3B => simp; omega
        case c4B => simp
        intro g2 cap2 w1 hown1 hgrow1 hat1 hlt1
        have HS : Hid (Step base w w1 (.slice (some ⟨g, 0, none⟩) l.length cap) (.slice (some ⟨g2, 0, none⟩) (l.length + 1) cap2) (l ++ [i])) := by
          refine ⟨by rw [ints_snoc] at hown1; simpa using hown1, (World.grownBy_alloc w _ _).trans hgrow1, ?_⟩
          rcases hat1 with h | h
          · exact .inl h.symm
          · exact .inr ⟨g2, rfl, by omega⟩
        clear hown1 hgrow1 hat1 hlt1
        go_wp2
        go_ret
        exact ⟨_, rfl, by rw [HA.out]; exact HS.out⟩
end Go.Proofs.Qxb6627205a
