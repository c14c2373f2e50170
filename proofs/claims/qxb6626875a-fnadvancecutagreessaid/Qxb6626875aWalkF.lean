import Derived.Test.Qxb6626875aWalkE
import Derived.Deep.LoopGhost
namespace Go.Proofs.Qxb6626875a
open Go.RowKit

theorem Try.info5 : (Try.prog.info? 5).map (fun i => (i.zero, i.size, i.bytes)) = some (some (.int .u8 0), 1, 1) := by kernel_rfl
theorem Try.info27 : (Try.prog.info? 27).map (fun i => (i.zero, i.size, i.bytes)) = some (some (.slice none 0 0), 1, 24) := by kernel_rfl

def cat (ps : List (List Int)) : List Int := ps.flatten
theorem cat_length (ps : List (List Int)) : (cat ps).length = tot ps := by
  induction ps with
  | nil => rfl
  | cons p ps ih => simp only [cat, List.flatten_cons, List.length_append, tot] at *; omega
theorem cat_take_succ (ps : List (List Int)) (k : Nat) (h : k < ps.length) : cat (ps.take (k + 1)) = cat (ps.take k) ++ part ps k := by
  unfold cat
  rw [List.take_succ_eq_append_getElem h, List.flatten_append]
  simp only [part, List.getD, List.getElem?_eq_getElem h, Option.getD_some, List.flatten_cons, List.flatten_nil, List.append_nil]

theorem Bs.below {w w' : World} {a : Option Addr} {l : List Int} (h : Bs w a l) (hb : Below w.heap.size w w') : Bs w' a l := by
  rcases h with h | ⟨b, o, h1, h2⟩
  · exact .inl h
  · exact .inr ⟨b, o, h1, fun j hj => (hb.cell (block_lt_of_cell (h2 j hj))).trans (h2 j hj)⟩
theorem Cl.below {w w' : World} {x : Addr} {l : List Int} (h : Cl w x l) (hb : Below w.heap.size w w') : Cl w' x l := by
  obtain ⟨A, C, h1, h2, h3, h4, h5⟩ := h
  exact ⟨A, C, (hb.cell (block_lt_of_cell h1)).trans h1, h2, h3, h4, h5.below hb⟩
theorem Pt.below {w w' : World} {a : Option Addr} {ps : List (List Int)} (h : Pt w a ps) (hb : Below w.heap.size w w') : Pt w' a ps := by
  rcases h with h | ⟨b, o, h1, h2⟩
  · exact .inl h
  · exact .inr ⟨b, o, h1, fun k hk => (h2 k hk).below hb⟩
theorem PtIn.below {w w' : World} {g : Nat} {a : Option Addr} {ps : List (List Int)} (h : PtIn w g a ps) (hb : Below w.heap.size w w') : PtIn w' g a ps := by
  rcases h with h | ⟨o, h1, h2⟩
  · exact .inl h
  · exact .inr ⟨o, h1, fun k hk => (h2 k hk).below hb⟩

def ints (l : List Int) : List Value := l.map (Value.int .u8)
theorem ints_snoc (l m : List Int) (j : Nat) (h : j < m.length) : ints (l ++ m.take j) ++ [.int .u8 m[j]] = ints (l ++ m.take (j + 1)) := by
  rw [List.take_succ_eq_append_getElem h]
  simp only [ints, List.map_append, List.append_assoc, List.map_cons, List.map_nil]
theorem own_bs {w : World} {base g n cap : Nat} {l : List Int} (h : w.ownsRow base 5 1 (.slice (some ⟨g, 0, none⟩) n cap) n (ints l)) (hn : l.length = n) : Bs w (some ⟨g, 0, none⟩) l := by
  refine .inr ⟨g, 0, rfl, fun j hj => ?_⟩
  rw [Nat.zero_add, h.cellAt j (by omega)]
  simp [ints, List.getD, hj]

set_option maxHeartbeats 1600000 in
theorem cat8 (w : World) (a : Option Addr) (ps : List (List Int)) (c : Nat) (hl : ps.length + tot ps ≤ 1048576) (hP : Pt w a ps) :
    Calls Try.prog 8 #[.slice a ps.length c] w fun e w' => e = .returned (.slice (some ⟨w.heap.size, 0, none⟩) (tot ps) (tot ps)) ∧ Bs w' (some ⟨w.heap.size, 0, none⟩) (cat ps) ∧ Below w.heap.size w w' := by
  obtain ⟨i0, hi, hz0, hz1, hz2⟩ := info_parts Try.info5
  go_enter Try.func8, Try.ntmps8
  go_wp2
  go_loop [3, 4] (fun n i => ∃ k : Nat, k ≤ ps.length ∧ i = .int .i64 k ∧ n = .int .i64 (tot (ps.take k) : Nat)) (fun _ i => ps.length - (intOf i).toNat)
  case atStart => exact ⟨0, Nat.zero_le _, rfl, by simp [tot]⟩
  case round =>
    obtain ⟨k, hk, rfl, rfl⟩ := hrel
    have htk := tot_take_le ps k
    by_cases hlt : k < ps.length
    · rcases hP with h | ⟨b, o, rfl, hc⟩
      · simp [h] at hlt
      obtain ⟨A, C, hcell, hlc, hcm, _, hb⟩ := hc k hlt
      have hpt := part_le_tot ps k hlt
      clear hc hb hcm hlc
      have HT : Hid (tot (ps.take (k + 1)) = tot (ps.take k) + (part ps k).length) := tot_take_succ ps k hlt
      have hkl : (k : Int) < (ps.length : Int) := by omega
      go_wp2
      go_round
      case rel => exact ⟨k + 1, by omega, by go_num, by have := HT.out; go_num⟩
      case measure => simp [intOf]; omega
    · have hke : k = ps.length := by omega
      have hte : tot (ps.take k) = tot ps := by rw [hke, tot_all]
      rw [hte]
      clear hke hte htk
      go_wp2_with (at_make; refine wpList_make_own _ rfl _ _ 27 rfl w.heap.size 5 i0 (.int .u8 0) 1 Try.underlying27 hi hz0 hz1 _ _ _ (tot ps) rfl rfl (by omega) ?b2 ?b3 (Nat.le_refl _) ?_)
      case b2 => omega
      case b3 => unfold maxLen; omega
      intro w0 hown0 hgrow0
      have hbel0 : Below w.heap.size w w0 := (Below.refl _ _).grown hgrow0 (Nat.le_refl _) (fun k h => by cases h)
      clear hgrow0
      go_wp2
      go_loopg [5, 6] (ps.length + 1) (fun gk out i wr => ∃ k : Nat, k ≤ ps.length ∧ gk = ps.length + 1 - k ∧ i = .int .i64 k ∧ out = .slice (some ⟨w.heap.size, 0, none⟩) (tot (ps.take k)) (tot ps) ∧
        wr.ownsRow w.heap.size 5 1 (.slice (some ⟨w.heap.size, 0, none⟩) (tot (ps.take k)) (tot ps)) (tot (ps.take k)) (ints (cat (ps.take k))) ∧ Below w.heap.size w wr)
      case atStart => exact ⟨0, Nat.zero_le _, rfl, rfl, rfl, hown0, hbel0⟩
      case round =>
        obtain ⟨k, hk, rfl, rfl, rfl, hown, hbel⟩ := hrel
        by_cases hlt : k < ps.length
        · rcases hP with h | ⟨b, o, rfl, hc⟩
          · simp [h] at hlt
          obtain ⟨A, C, hcell, hlc, hcm, hAn, hB⟩ := hc k hlt
          have hpt := part_le_tot ps k hlt
          have htk := tot_take_le ps (k + 1)
          have hts := tot_take_succ ps k hlt
          have HT : Hid (tot (ps.take (k + 1)) = tot (ps.take k) + (part ps k).length) := hts
          have hsum : tot (ps.take k) + (part ps k).length ≤ tot ps := by omega
          have HK : Hid (cat (ps.take (k + 1)) = cat (ps.take k) ++ part ps k) := cat_take_succ ps k hlt
          have HC : Hid (w.cell? ⟨b, o + k, none⟩ = some (.slice A (part ps k).length C)) := hcell
          have HB : Hid (Bs w A (part ps k)) := hB
          clear hc hB hcm hlc hts htk hcell hbel0 hown0
          have hkl : (k : Int) < (ps.length : Int) := by omega
          go_wp2
          go_loopg [5, 7] ((part ps k).length + 1) (fun gj out i wr => ∃ j : Nat, j ≤ (part ps k).length ∧ gj = (part ps k).length + 1 - j ∧ i = .int .i64 j ∧ out = .slice (some ⟨w.heap.size, 0, none⟩) (tot (ps.take k) + j) (tot ps) ∧
            wr.ownsRow w.heap.size 5 1 (.slice (some ⟨w.heap.size, 0, none⟩) (tot (ps.take k) + j) (tot ps)) (tot (ps.take k) + j) (ints (cat (ps.take k) ++ (part ps k).take j)) ∧ Below w.heap.size w wr)
          case atStart => exact ⟨0, Nat.zero_le _, rfl, rfl, rfl, by simpa using hown, hbel⟩
          case round =>
            clear hown hbel
            obtain ⟨j, hj, rfl, rfl, rfl, hown, hbel⟩ := hrel
            have hcell : wr.cell? ⟨b, o + k, none⟩ = some (.slice A (part ps k).length C) := (hbel.cell (block_lt_of_cell HC.out)).trans HC.out
            by_cases hjl : j < (part ps k).length
            · rcases HB.out with h | ⟨b2, o2, rfl, hB⟩
              · simp [h] at hjl
              have hbyte : wr.cell? ⟨b2, o2 + j, none⟩ = some (.int .u8 ((part ps k).getD j 0)) := (hbel.cell (block_lt_of_cell (hB j hjl))).trans (hB j hjl)
              clear hB
              have hjl1 : (j : Int) < ((part ps k).length : Int) := by omega
              go_wp2_with (at_builtin; refine wpList_append_fits _ rfl _ _ 27 rfl w.heap.size 5 i0 1 Try.underlying27 hi hz1 w.heap.size (tot (ps.take k) + j) (tot ps) _ rfl (hown.alloc _) ⟨wr.heap.size, 0, none⟩ 1 1 [.int .u8 ((part ps k).getD j 0)] rfl rfl ?c1 ?c2 ?c3 ?_)
              case c1 =>
                intro q u hq
                match q, hq with
                | 0, hq => simp at hq; subst hq; simp [Addr.add, hjl]
              case c2 => intro u hu; simp at hu; subst hu; rfl
              case c3 => omega
              intro w1 hown1 hgrow1
              have hbel1 : Below w.heap.size w w1 := (hbel.alloc hbel.size _).grown hgrow1 (by simp; have := hbel.size; omega) (fun k hk => by cases hk; exact Nat.le_refl _)
              have HO : Hid (w1.ownsRow w.heap.size 5 1 (.slice (some ⟨w.heap.size, 0, none⟩) (tot (ps.take k) + (j + 1)) (tot ps)) (tot (ps.take k) + (j + 1)) (ints (cat (ps.take k) ++ (part ps k).take (j + 1)))) := by
                rw [ints_snoc _ _ _ hjl] at hown1; exact hown1
              clear hown1 hgrow1 hown hbel hbyte hcell
              go_wp2
              go_roundg ((part ps k).length + 1 - (j + 1))
              case rel => exact ⟨j + 1, by omega, rfl, by go_num, rfl, HO.out, hbel1⟩
              case measure => omega
            · have hje : j = (part ps k).length := by omega
              subst hje
              rw [List.take_length] at hown
              have HO : Hid (wr.ownsRow w.heap.size 5 1 (.slice (some ⟨w.heap.size, 0, none⟩) (tot (ps.take (k + 1))) (tot ps)) (tot (ps.take (k + 1))) (ints (cat (ps.take (k + 1))))) := by
                rw [HT.out, HK.out]; exact hown
              clear hown
              go_wp2
              go_roundg (ps.length + 1 - (k + 1))
              case rel => exact ⟨k + 1, by omega, rfl, by go_num, by rw [HT.out], HO.out, hbel⟩
              case measure => omega
        · have hke : k = ps.length := by omega
          subst hke
          rw [List.take_length] at hown
          go_wp2
          go_ret
          exact ⟨ret_slice (tot_all ps), own_bs hown (cat_length ps), hbel⟩
end Go.Proofs.Qxb6626875a
