import Derived.Test.Qxb6627205aMem
namespace Go.Proofs.Qxb6627205a
open Go.RowKit

/-- It hands back a bool. -/
def IsB (e : Ending) : Prop := ∃ r : Bool, e = .returned (.bool r)

set_option maxHeartbeats 400000 in
theorem pats23 (w : World) (a : Option Addr) (ps : List Pat) (c acc : Nat) (hl : ps.length ≤ maxLen) (ha : acc ≤ 2097300) (hP : Ps w a ps) :
    Calls Try.prog 23 #[.slice a ps.length c, .int .i64 acc] w fun e w' => (∃ r : Nat, e = .returned (.int .i64 r) ∧ r ≤ 2097300 ∧ (r = acc + costP ps ∨ 1048576 < r)) ∧ w' = w := by
  unfold maxLen at hl
  go_enter Try.func23, Try.ntmps23
  go_wp2
  go_loop [1, 5] (fun s i => ∃ k m : Nat, k ≤ ps.length ∧ i = .int .i64 k ∧ s = .int .i64 m ∧ Hid (m = acc + costP (ps.take k)) ∧ m ≤ 2097300) (fun _ i => ps.length - (intOf i).toNat)
  case atStart => exact ⟨0, acc, Nat.zero_le _, rfl, rfl, rfl, ha⟩
  case round =>
    obtain ⟨k, m, hk, rfl, rfl, HM, hm⟩ := hrel
    by_cases hlt : k < ps.length
    · rcases hP with h | ⟨b, o, rfl, hP⟩
      · simp [h] at hlt
      obtain ⟨p, hp⟩ : ∃ p, ps[k]? = some p := ⟨ps[k], List.getElem?_eq_getElem hlt⟩
      obtain ⟨h1, h2, _, _, h5⟩ := hP k p hp
      have HC : Hid (costP (ps.take (k + 1)) = costP (ps.take k) + (24 + p.text.size)) := costP_take ps k p hp
      have hkl : (k : Int) < (ps.length : Int) := by omega
      unfold maxLen at h5
      clear hP hp
      by_cases hbig : 1048576 < m
      · have hbig' : (1048576 : Int) < (m : Int) := by omega
        go_wp2
        go_ret
        exact ⟨⟨m, rfl, hm, .inr hbig⟩, rfl⟩
      · have hbig' : (m : Int) ≤ (1048576 : Int) := by omega
        by_cases hs : 1048576 < p.text.size
        · have hs' : (1048576 : Int) < (p.text.size : Int) := by omega
          go_wp2
          go_ret
          exact ⟨⟨1048577, rfl, by omega, .inr (by omega)⟩, rfl⟩
        · have hs' : (p.text.size : Int) ≤ (1048576 : Int) := by omega
          go_wp2
          go_round
          case rel => exact ⟨k + 1, m + (24 + p.text.size), by omega, by go_num, by go_num, by have h1 := HM.out; have h2 := HC.out; show _ = _; omega, by omega⟩
          case measure => simp [intOf]; omega
    · go_wp2
      go_ret
      exact ⟨⟨m, rfl, hm, .inl (by have := HM.out; rw [List.take_of_length_le (by omega)] at this; exact this)⟩, rfl⟩

set_option maxHeartbeats 400000 in
theorem strs7 (w : World) (a : Option Addr) (ss : List ByteArray) (c acc : Nat) (hl : ss.length ≤ maxLen) (ha : acc ≤ 2097300) (hP : Ss w a ss) :
    Calls Try.prog 7 #[.slice a ss.length c, .int .i64 acc] w fun e w' => (∃ r : Nat, e = .returned (.int .i64 r) ∧ r ≤ 2097300 ∧ (r = acc + costS ss ∨ 1048576 < r)) ∧ w' = w := by
  unfold maxLen at hl
  go_enter Try.func7, Try.ntmps7
  go_wp2
  go_loop [1, 5] (fun s i => ∃ k m : Nat, k ≤ ss.length ∧ i = .int .i64 k ∧ s = .int .i64 m ∧ Hid (m = acc + costS (ss.take k)) ∧ m ≤ 2097300) (fun _ i => ss.length - (intOf i).toNat)
  case atStart => exact ⟨0, acc, Nat.zero_le _, rfl, rfl, rfl, ha⟩
  case round =>
    obtain ⟨k, m, hk, rfl, rfl, HM, hm⟩ := hrel
    by_cases hlt : k < ss.length
    · rcases hP with h | ⟨b, o, rfl, hP⟩
      · simp [h] at hlt
      obtain ⟨p, hp⟩ : ∃ p, ss[k]? = some p := ⟨ss[k], List.getElem?_eq_getElem hlt⟩
      obtain ⟨h1, h5⟩ := hP k p hp
      have HC : Hid (costS (ss.take (k + 1)) = costS (ss.take k) + (16 + p.size)) := costS_take ss k p hp
      have hkl : (k : Int) < (ss.length : Int) := by omega
      unfold maxLen at h5
      clear hP hp
      by_cases hbig : 1048576 < m
      · have hbig' : (1048576 : Int) < (m : Int) := by omega
        go_wp2
        go_ret
        exact ⟨⟨m, rfl, hm, .inr hbig⟩, rfl⟩
      · have hbig' : (m : Int) ≤ (1048576 : Int) := by omega
        by_cases hs : 1048576 < p.size
        · have hs' : (1048576 : Int) < (p.size : Int) := by omega
          go_wp2
          go_ret
          exact ⟨⟨1048577, rfl, by omega, .inr (by omega)⟩, rfl⟩
        · have hs' : (p.size : Int) ≤ (1048576 : Int) := by omega
          go_wp2
          go_round
          case rel => exact ⟨k + 1, m + (16 + p.size), by omega, by go_num, by go_num, by have h1 := HM.out; have h2 := HC.out; show _ = _; omega, by omega⟩
          case measure => simp [intOf]; omega
    · go_wp2
      go_ret
      exact ⟨⟨m, rfl, hm, .inl (by have := HM.out; rw [List.take_of_length_le (by omega)] at this; exact this)⟩, rfl⟩

set_option maxHeartbeats 400000 in
theorem forms15 (w : World) (a : Option Addr) (ps : List Pat) (c : Nat) (hl : ps.length ≤ maxLen) (hP : Ps w a ps) :
    Calls Try.prog 15 #[.slice a ps.length c] w fun e w' => IsB e ∧ w' = w := by
  unfold maxLen at hl
  go_enter Try.func15, Try.ntmps15
  go_wp2
  go_loop [3] (fun i => ∃ k : Nat, k ≤ ps.length ∧ i = .int .i64 k) (fun i => ps.length - (intOf i).toNat)
  case atStart => exact ⟨0, Nat.zero_le _, rfl⟩
  case round =>
    obtain ⟨k, hk, rfl⟩ := hrel
    by_cases hlt : k < ps.length
    · rcases hP with h | ⟨b, o, rfl, hP⟩
      · simp [h] at hlt
      obtain ⟨h1, h2, h3, h4, h5⟩ := hP k ps[k] (List.getElem?_eq_getElem hlt)
      generalize ps[k] = p at *
      have hkl : (k : Int) < (ps.length : Int) := by omega
      clear hP h2 h5
      by_cases hbig : 3 < p.form
      · go_wp2
        go_ret
        exact ⟨⟨false, rfl⟩, rfl⟩
      · go_wp2
        go_round
        case rel => exact ⟨k + 1, by omega, by go_num⟩
        case measure => simp [intOf]; omega
    · go_wp2
      go_ret
      exact ⟨⟨true, rfl⟩, rfl⟩

set_option maxHeartbeats 400000 in
theorem one14 (w : World) (r : Rule) (A1 A2 : Option Addr) (C1 C2 acc : Nat) (ha : acc ≤ 2097300) (h1 : Ps w A1 r.pr) (h2 : Ps w A2 r.pa) (hs : r.name.size ≤ maxLen) (hl1 : r.pr.length ≤ maxLen) (hl2 : r.pa.length ≤ maxLen) :
    Calls Try.prog 14 #[.agg #[.string r.name, .slice A1 r.pr.length C1, .slice A2 r.pa.length C2], .int .i64 acc] w fun e w' => (∃ q : Nat, e = .returned (.int .i64 q) ∧ q ≤ 2097300 ∧ (q = acc + costR1 r ∨ 1048576 < q)) ∧ Below w.heap.size w w' := by
  have HB : Hid (Below w.heap.size w (w.alloc (.cells #[.string r.name, .slice A1 r.pr.length C1, .slice A2 r.pa.length C2] 45))) := (Below.refl _ _).alloc (Nat.le_refl _) _
  have HP1 : Hid (Ps (w.alloc (.cells #[.string r.name, .slice A1 r.pr.length C1, .slice A2 r.pa.length C2] 45)) A1 r.pr) := h1.below HB.out
  have HP2 : Hid (Ps (w.alloc (.cells #[.string r.name, .slice A1 r.pr.length C1, .slice A2 r.pa.length C2] 45)) A2 r.pa) := h2.below HB.out
  clear h1 h2
  have hs0 := hs
  unfold maxLen at hs0
  by_cases hbig : 1048576 < acc
  · have hbig' : (1048576 : Int) < (acc : Int) := by omega
    go_enter Try.func14, Try.ntmps14
    go_wp2
    go_ret
    exact ⟨⟨acc, rfl, ha, .inr hbig⟩, HB.out⟩
  · have hbig' : (acc : Int) ≤ (1048576 : Int) := by omega
    by_cases hn : 1048576 < r.name.size
    · have hn' : (1048576 : Int) < (r.name.size : Int) := by omega
      go_enter Try.func14, Try.ntmps14
      go_wp2
      go_ret
      exact ⟨⟨1048577, rfl, by omega, .inr (by omega)⟩, HB.out⟩
    · have hn' : (r.name.size : Int) ≤ (1048576 : Int) := by omega
      go_enter Try.func14, Try.ntmps14
      go_wp2_with fail
      rw [show (acc : Int) + (64 + (r.name.size : Int)) = ((acc + (64 + r.name.size) : Nat) : Int) by omega]
      refine (pats23 _ A1 r.pr C1 (acc + (64 + r.name.size)) hl1 (by omega) HP1.out).mono ?_
      rintro e w1 ⟨⟨q1, rfl, hq1, HQ1⟩, rfl⟩
      have HQ1' : Hid (q1 = acc + (64 + r.name.size) + costP r.pr ∨ 1048576 < q1) := HQ1
      clear HQ1
      go_wp2_with fail
      refine (pats23 _ A2 r.pa C2 q1 hl2 hq1 HP2.out).mono ?_
      rintro e w1 ⟨⟨q2, rfl, hq2, HQ2⟩, rfl⟩
      have HQ2' : Hid (q2 = q1 + costP r.pa ∨ 1048576 < q2) := HQ2
      clear HQ2
      go_wp2
      go_ret
      refine ⟨⟨q2, rfl, hq2, ?_⟩, HB.out⟩
      have e1 := HQ1'.out
      have e2 := HQ2'.out
      unfold costR1
      omega

set_option maxHeartbeats 400000 in
theorem rules6 (w : World) (a : Option Addr) (rs : List Rule) (c acc : Nat) (hl : rs.length ≤ maxLen) (ha : acc ≤ 2097300) (hP : Rl w a rs) :
    Calls Try.prog 6 #[.slice a rs.length c, .int .i64 acc] w fun e w' => (∃ r : Nat, e = .returned (.int .i64 r) ∧ r ≤ 2097300 ∧ (r = acc + costR rs ∨ 1048576 < r)) ∧ Below w.heap.size w w' := by
  unfold maxLen at hl
  go_enter Try.func6, Try.ntmps6
  go_wp2
  go_loopw [1, 5] (fun s i wr => ∃ k m : Nat, k ≤ rs.length ∧ i = .int .i64 k ∧ s = .int .i64 m ∧ Hid (m = acc + costR (rs.take k) ∨ 1048576 < m) ∧ m ≤ 2097300 ∧ Below w.heap.size w wr) (fun _ i _ => rs.length - (intOf i).toNat)
  case atStart => exact ⟨0, acc, Nat.zero_le _, rfl, rfl, .inl rfl, ha, Below.refl _ _⟩
  case round =>
    obtain ⟨k, m, hk, rfl, rfl, HM, hm, hb⟩ := hrel
    by_cases hlt : k < rs.length
    · rcases hP with h | ⟨b, o, rfl, hP⟩
      · simp [h] at hlt
      obtain ⟨r, hr⟩ : ∃ p, rs[k]? = some p := ⟨rs[k], List.getElem?_eq_getElem hlt⟩
      obtain ⟨A1, C1, A2, C2, c1, c2, c3, p1, p2, n1, n2, n3⟩ := (hP k r hr).below hb
      have HC : Hid (costR (rs.take (k + 1)) = costR (rs.take k) + costR1 r) := costR_take rs k r hr
      have hkl : (k : Int) < (rs.length : Int) := by omega
      have HP : Hid (Ps wr A1 r.pr ∧ Ps wr A2 r.pa) := ⟨p1, p2⟩
      clear hP hr p1 p2
      by_cases hbig : 1048576 < m
      · have hbig' : (1048576 : Int) < (m : Int) := by omega
        go_wp2
        go_ret
        exact ⟨⟨m, rfl, hm, .inr hbig⟩, hb⟩
      · have hbig' : (m : Int) ≤ (1048576 : Int) := by omega
        go_wp2_with fail
        refine (one14 _ r A1 A2 C1 C2 m hm HP.out.1 HP.out.2 n1 n2 n3).mono ?_
        rintro e w1 ⟨⟨q1, rfl, hq1, HQ1⟩, hb1⟩
        have HQ1' : Hid (q1 = m + costR1 r ∨ 1048576 < q1) := HQ1
        have hb2 : Below w.heap.size w w1 := hb.trans (hb1.mono hb.size)
        clear HQ1 hb1
        go_wp2
        go_roundw
        case rel => exact ⟨k + 1, q1, by omega, by go_num, rfl, by have h1 := HM.out; have h2 := HC.out; have h3 := HQ1'.out; show _ ∨ _; omega, hq1, hb2⟩
        case measure => simp [intOf]; omega
    · go_wp2
      go_ret
      exact ⟨⟨m, rfl, hm, by have := HM.out; rw [List.take_of_length_le (by omega)] at this; exact this⟩, hb⟩

set_option maxHeartbeats 400000 in
theorem forms8 (w : World) (a : Option Addr) (rs : List Rule) (c : Nat) (hl : rs.length ≤ maxLen) (hP : Rl w a rs) :
    Calls Try.prog 8 #[.slice a rs.length c] w fun e w' => IsB e ∧ w' = w := by
  unfold maxLen at hl
  go_enter Try.func8, Try.ntmps8
  go_wp2
  go_loop [3] (fun i => ∃ k : Nat, k ≤ rs.length ∧ i = .int .i64 k) (fun i => rs.length - (intOf i).toNat)
  case atStart => exact ⟨0, Nat.zero_le _, rfl⟩
  case round =>
    obtain ⟨k, hk, rfl⟩ := hrel
    by_cases hlt : k < rs.length
    · rcases hP with h | ⟨b, o, rfl, hP⟩
      · simp [h] at hlt
      obtain ⟨A1, C1, A2, C2, c1, c2, c3, p1, p2, n1, n2, n3⟩ := hP k rs[k] (List.getElem?_eq_getElem hlt)
      generalize rs[k] = r at *
      have hkl : (k : Int) < (rs.length : Int) := by omega
      have HP : Hid (Ps w A1 r.pr ∧ Ps w A2 r.pa) := ⟨p1, p2⟩
      clear hP p1 p2
      go_wp2_with fail
      refine (forms15 _ A1 r.pr C1 n2 HP.out.1).mono ?_
      rintro e w1 ⟨⟨b1, rfl⟩, rfl⟩
      cases b1 with
      | false =>
        go_wp2
        go_ret
        exact ⟨⟨false, rfl⟩, rfl⟩
      | true =>
        go_wp2_with fail
        refine (forms15 _ A2 r.pa C2 n3 HP.out.2).mono ?_
        rintro e w1 ⟨⟨b2, rfl⟩, rfl⟩
        cases b2 with
        | false =>
          go_wp2
          go_ret
          exact ⟨⟨false, rfl⟩, rfl⟩
        | true =>
          go_wp2
          go_round
          case rel => exact ⟨k + 1, by omega, by go_num⟩
          case measure => simp [intOf]; omega
    · go_wp2
      go_ret
      exact ⟨⟨true, rfl⟩, rfl⟩
end Go.Proofs.Qxb6627205a
