import Derived.Test.Qxb6626922aSeen
namespace Go.Proofs.Qxb6626922a
open Go.RowKit Go.Maps

attribute [local go_sem ↓] Go.wp_at_zero Go.wp_at_succ

theorem there_new (w : World) (cs : Array Value) (t : TypeId) (n : Nat) (h : n ≤ cs.size) : (w.alloc (.cells cs t)).there w.heap.size 0 n := by
  intro j hj
  rw [Nat.zero_add, World.cell?_alloc_new]
  exact ⟨by rw [Array.getElem?_eq_getElem (by omega)]; rfl, World.frozen?_alloc_new w cs t j⟩
theorem setCells_grown (w : World) (b : Nat) (vs : List Value) (o : Nat) : w.grownBy (w.setCells b o vs) (some b) := by
  induction vs generalizing w o with
  | nil => exact World.grownBy.refl _ _
  | cons v r ih =>
    have h1 : w.grownBy (w.setCell ⟨b, o, none⟩ v) (some b) := ⟨rfl, rfl, rfl, by simp [World.setCell], fun k _ hk => Below.heap_setCell w ⟨b, o, none⟩ v k (fun e => hk (by simp at e; simp [e]))⟩
    exact h1.trans (ih _ _)
theorem owns_lt {w : World} {base e size g n cap : Nat} {xs : List Value} (h : w.ownsRow base e size (.slice (some ⟨g, 0, none⟩) n cap) n xs) : g < w.heap.size := (h.lt g rfl).2
def fill (d : List (Value × Nat)) (Z : Array Value) : Array Value := d.foldl (fun cs x => cs.setIfInBounds x.snd x.fst) Z
theorem fill_low (d : List Value) (k : Nat) (Z : Array Value) (i : Nat) (h : i < k) : (fill (d.zipIdx k) Z)[i]? = Z[i]? := by
  induction d generalizing k Z with
  | nil => rfl
  | cons v r ih =>
    simp only [List.zipIdx_cons, fill, List.foldl_cons]
    have := ih (k + 1) (Z.setIfInBounds k v) (by omega)
    unfold fill at this
    rw [this, Array.getElem?_setIfInBounds_ne (by omega)]
theorem fill_get (d : List Value) (k : Nat) (Z : Array Value) (h : k + d.length ≤ Z.size) (j : Nat) (hj : j < d.length) : (fill (d.zipIdx k) Z)[k + j]? = d[j]? := by
  induction d generalizing k Z j with
  | nil => simp at hj
  | cons v r ih =>
    simp only [List.length_cons] at h hj
    cases j with
    | zero =>
      have h1 := fill_low r (k + 1) (Z.setIfInBounds k v) k (by omega)
      simp only [List.zipIdx_cons, fill, List.foldl_cons] at h1 ⊢
      refine h1.trans ?_
      rw [Array.getElem?_setIfInBounds_self_of_lt (by omega)]
      rfl
    | succ j =>
      have h1 := ih (k + 1) (Z.setIfInBounds k v) (by simp; omega) j (by omega)
      simp only [List.zipIdx_cons, fill, List.foldl_cons] at h1 ⊢
      rw [show k + (j + 1) = k + 1 + j by omega, h1]
      rfl
theorem cells_new (w : World) (Z : Array Value) (d : List Value) (t : TypeId) (h : d.length ≤ Z.size) : ∀ j u, d[j]? = some u → (w.alloc (.cells (List.foldl (fun cs x => cs.setIfInBounds x.snd x.fst) Z d.zipIdx) t)).cell? ((⟨w.heap.size, 0, none⟩ : Addr).add j) = some u := by
  intro j u hu
  have hj := (List.getElem?_eq_some_iff.1 hu).1
  have h1 := fill_get d 0 Z (by omega) j hj
  rw [Addr.add_mid, Nat.zero_add, World.cell?_alloc_new]
  rw [Nat.zero_add] at h1
  unfold fill at h1
  rw [h1, hu]
theorem range_app {w w3 : World} {N g : Nat} {d : List Value} {o : Obj} (h : w.rangeAt N 0 d) (hg : (w.alloc o).grownBy w3 (some g)) (hne : N ≠ g) : w3.rangeAt N 0 d :=
  range_grown (range_grown h (World.grownBy_alloc w o none) (by simp)) hg (by simpa using hne)
/-- A new block, filled. -/
theorem laid_new (w : World) (cs : Array Value) (t : TypeId) (d : List Value) (h : d.length ≤ cs.size) :
    ((w.alloc (.cells cs t)).setCells w.heap.size 0 d).rangeAt w.heap.size 0 d ∧ w.grownBy ((w.alloc (.cells cs t)).setCells w.heap.size 0 d) none ∧ w.heap.size < ((w.alloc (.cells cs t)).setCells w.heap.size 0 d).heap.size := by
  have hg := setCells_grown (w.alloc (.cells cs t)) w.heap.size d 0
  have hs : w.heap.size < (w.alloc (.cells cs t)).heap.size := by simp
  refine ⟨World.rangeAt_setCells_same _ _ _ _ (there_new w cs t _ h), ⟨hg.os, hg.tape, hg.output, Nat.le_trans (Nat.le_of_lt hs) hg.size, fun k hk _ => ?_⟩, Nat.lt_of_lt_of_le hs hg.size⟩
  rw [hg.block k (by omega) (by intro e; have := Option.some.inj e; omega)]
  exact Below.heap_alloc w _ k hk

set_option maxHeartbeats 400000 in
theorem first_big (w : World) (a : Option Addr) (n c : Nat) (hl : n ≤ maxLen) (h : okN n = false ∨ (okN n = true ∧ 4096 < n)) :
    Calls Try.prog 3 #[.slice a n c] w fun e w' => e = .returned (.bool true) ∧ Below w.heap.size w w' := by
  have HC := bytes5 w a n c hl
  unfold maxLen at hl
  rcases h with h | ⟨h, h2⟩
  · rw [h] at HC
    have HH : Hid (Calls Try.prog 5 #[.slice a n c] w fun e w' => e = .returned (.bool false) ∧ w' = w) := HC
    clear HC h
    go_enter Try.func3, Try.ntmps3
    go_wp2_with fail
    refine HH.out.mono ?_
    rintro e w ⟨rfl, rfl⟩
    go_wp2
    go_ret
    exact ⟨rfl, Below.refl _ _⟩
  · rw [h] at HC
    have HH : Hid (Calls Try.prog 5 #[.slice a n c] w fun e w' => e = .returned (.bool true) ∧ w' = w) := HC
    clear HC h
    have h3 : (4096 : Int) < (n : Int) := by omega
    go_enter Try.func3, Try.ntmps3
    go_wp2_with fail
    refine HH.out.mono ?_
    rintro e w ⟨rfl, rfl⟩
    go_wp2
    go_ret
    exact ⟨rfl, Below.refl _ _⟩

set_option maxHeartbeats 3200000 in
theorem first_main (w : World) (a : Option Addr) (ds : List (List Value)) (c : Nat) (hl : ds.length ≤ 4096) (hD : Ds w a ds) :
    Calls Try.prog 3 #[.slice a ds.length c] w fun e w' => e = .returned (.bool true) ∧ Below w.heap.size w w' := by
  have HC := bytes5 w a ds.length c (by unfold maxLen; omega)
  rw [okN_true (by omega)] at HC
  have HH : Hid (Calls Try.prog 5 #[.slice a ds.length c] w fun e w' => e = .returned (.bool true) ∧ w' = w) := HC
  obtain ⟨z, hzi, hzs⟩ := Try.info26
  obtain ⟨i0, hi, hz0, hz1, hz2⟩ := info_parts hzi
  clear HC hzi
  go_enter Try.func3, Try.ntmps3
  go_wp2_with fail
  refine HH.out.mono ?_
  rintro e w ⟨rfl, rfl⟩
  clear HH
  go_wp2_with fail
  refine (new6 w).mono ?_
  rintro e w1 ⟨rfl, hw1⟩
  have hs1 : w1.heap.size = w.heap.size + 2 := by rw [hw1]; simp
  have HI1 : Hid (Idx w1 w.heap.size []) := by rw [hw1]; exact (idx_made w).kept (World.grownBy_alloc _ _ none) (by simp)
  have HC1 : Hid (w1.cell? ⟨w.heap.size + 1, 0, none⟩ = some (.map (some w.heap.size))) := by
    rw [hw1]
    have h := World.cell?_alloc_new (w.alloc (.map #[] 0)) #[.map (some w.heap.size)] 33 0
    rw [show (w.alloc (.map #[] 0)).heap.size = w.heap.size + 1 by simp] at h
    exact h
  have HB1 : Hid (Below w.heap.size w w1) := by rw [hw1]; exact ((Below.refl _ _).alloc (Nat.le_refl _) _).alloc (by simp) _
  clear hw1
  go_wp2_with (at_make; refine wpList_make_own _ rfl _ _ 22 rfl w1.heap.size 26 i0 z 32 Try.underlying22 hi hz0 hz1 _ _ _ ds.length rfl rfl (by omega) ?b2 ?b3 (Nat.le_refl _) ?_)
  case b2 => first | omega | (rw [hz2]; omega)
  case b3 => unfold maxLen; omega
  intro w2 hown2 hgrow2
  have hS : St w w2 ds.length [] := ⟨hown2, HI1.out.kept hgrow2 (by simp), hgrow2.cell HC1.out (by simp), by simp, HB1.out.grown hgrow2 HB1.out.size (fun k hk => by cases hk)⟩
  clear hown2 hgrow2 HI1 HC1 HB1 hs1 hzs
  go_wp2_with fail
  go_loopg [4, 5] (ds.length + 1) (fun gk s i wr => ∃ (k : Nat) (ks : List (List Value)), k ≤ ds.length ∧ gk = ds.length + 1 - k ∧ i = .int .i64 k ∧ s = .slice (some ⟨w.heap.size + 2, 0, none⟩) ks.length ds.length ∧ ks.length ≤ k ∧ St w wr ds.length ks)
  case atStart => exact ⟨0, [], Nat.zero_le _, rfl, rfl, rfl, Nat.zero_le _, hS⟩
  case round =>
    clear hS
    obtain ⟨k, ks, hk, rfl, rfl, rfl, hks, hS⟩ := hrel
    by_cases hlt : k < ds.length
    · rcases hD with h | ⟨bd, od, rfl, hD⟩
      · simp [h] at hlt
      obtain ⟨hd, hr0⟩ := hD k ds[k] (List.getElem?_eq_getElem hlt)
      generalize ds[k] = d at hd hr0
      have hr : wr.rangeAt bd (od + k * 32) d := range_below hr0 hS.bel (range_lt hr0)
      have hin : (Try.prog.info? 26).map (·.size) = some d.length := by rw [Try.size26, hd.1]
      have hkl : (k : Int) < (ds.length : Int) := by omega
      have HS : Hid (St w wr ds.length ks) := hS
      have HDg : Hid (Dig d) := hd
      clear hD hr0 hS hd
      have hlen : d.length = 32 := HDg.out.1
      have hone := all_oneCell_toArray HDg.out.one
      have hins : (Try.prog.info? 26).map (·.size) = some d.toArray.size := by rw [Try.size26]; simp [hlen]
      go_upto_region 11 with (first
        | (refine wpList_load_mid rfl 26 _ rfl _ _ rfl d _ (by exact hr) Try.underlying26 rfl hin ?_)
        | (refine wpList_store_mid rfl 26 _ _ rfl wr.heap.size 0 d.toArray rfl rfl (there_new _ _ _ _ (by simp [hlen])) hins hone ?_))
      obtain ⟨hr1, hg1, hs1⟩ := laid_new wr #[.int .u8 0, .int .u8 0, .int .u8 0, .int .u8 0, .int .u8 0, .int .u8 0, .int .u8 0, .int .u8 0, .int .u8 0, .int .u8 0, .int .u8 0, .int .u8 0, .int .u8 0, .int .u8 0, .int .u8 0, .int .u8 0, .int .u8 0, .int .u8 0, .int .u8 0, .int .u8 0, .int .u8 0, .int .u8 0, .int .u8 0, .int .u8 0, .int .u8 0, .int .u8 0, .int .u8 0, .int .u8 0, .int .u8 0, .int .u8 0, .int .u8 0, .int .u8 0] 26 d (by simp [hlen])
      obtain ⟨N, hN⟩ : ∃ N, N = wr.heap.size := ⟨_, rfl⟩
      rw [← hN] at hr1 hs1 ⊢
      rw [← hN] at hg1
      generalize (wr.alloc (.cells #[.int .u8 0, .int .u8 0, .int .u8 0, .int .u8 0, .int .u8 0, .int .u8 0, .int .u8 0, .int .u8 0, .int .u8 0, .int .u8 0, .int .u8 0, .int .u8 0, .int .u8 0, .int .u8 0, .int .u8 0, .int .u8 0, .int .u8 0, .int .u8 0, .int .u8 0, .int .u8 0, .int .u8 0, .int .u8 0, .int .u8 0, .int .u8 0, .int .u8 0, .int .u8 0, .int .u8 0, .int .u8 0, .int .u8 0, .int .u8 0, .int .u8 0, .int .u8 0] 26)).setCells N 0 d = W1 at *
      have HS1 : Hid (St w W1 ds.length ks) := HS.out.kept hg1
      have HN : Hid (∀ row, row = w.heap.size ∨ row = w.heap.size + 2 → row < N) := by
        intro row hrow
        have h1 := HS.out.idx.lt
        have h2 := block_lt_of_cell HS.out.cell
        have h3 := owns_lt HS.out.own
        simp only at h2
        omega
      clear hN HS hr hg1
      go_wp2_with fail
      go_loopg [7, 8] (ks.length + 1) (fun gj q j wi => ∃ t : Nat, t ≤ ks.length ∧ gj = ks.length + 1 - t ∧ j = .int .i64 t ∧ q = .int .i64 (-1) ∧ Hid (∀ s, s < t → ¬ ks[s]? = some d) ∧ Hid (∃ m, wi = W1.drewN m))
      case atStart => exact ⟨0, Nat.zero_le _, rfl, rfl, rfl, fun s hs => absurd hs (Nat.not_lt_zero _), 0, rfl⟩
      case round =>
        obtain ⟨t, ht, rfl, rfl, rfl, HT, HW⟩ := hrel
        have HSr : Hid (St w wr ds.length ks) := by obtain ⟨m, rfl⟩ := HW.out; exact HS1.out.kept ⟨rfl, rfl, rfl, Nat.le_refl _, fun _ _ _ => rfl⟩
        have hrd : wr.rangeAt N 0 d := by obtain ⟨m, rfl⟩ := HW.out; exact hr1
        have hNr : N < wr.heap.size := by obtain ⟨m, rfl⟩ := HW.out; exact hs1
        by_cases htl : t < ks.length
        · obtain ⟨x, hx⟩ : ∃ x, ks[t]? = some x := ⟨ks[t], List.getElem?_eq_getElem htl⟩
          have hxd : Dig x := HSr.out.dig x (List.mem_of_getElem? hx)
          have hrx : wr.rangeAt (w.heap.size + 2) (t * 32) x := own_range HSr.out.own HSr.out.dig hx
          have hxlen : x.length = 32 := hxd.1
          have hxin : (Try.prog.info? 26).map (·.size) = some x.length := by rw [Try.size26, hxlen]
          have hu := Try.underlying26
          have htl1 : (t : Int) < (ks.length : Int) := by omega
          have HX : Hid (ks[t]? = some x) := hx
          clear hx
          by_cases hxe : x = d
          · subst hxe
            have heq : ∀ w' : World, (binOp .eql 26 (.agg x.toArray) (.agg x.toArray)).run Try.prog w' = .ok (.bool true) w' := fun w' => by
              obtain ⟨r, h1, h2⟩ := run_eq_dig w' hxd hxd
              have h3 := h2.2 rfl
              subst h3
              simp only [binOp]
              unfold dv at h1
              simp [h1]
            clear hxd
            go_wp2_with fail
            refine wp_region_quiet_lit (by kernel_rfl) (by kernel_rfl) ?_
            quiet_step (fail)
            quiet_step (fail)
            quiet_step (fail)
            refine wpQuiet_load_mid rfl 26 _ rfl _ _ rfl x _ (by rintro w' ⟨n, rfl⟩; exact hrx) Try.underlying26 rfl hxin ?_
            simp only [Act.put, List.setIfInBounds_toArray, List.set_cons_zero, List.set_cons_succ]
            refine wpQuiet_load_mid rfl 26 _ rfl _ _ rfl x _ (by rintro w' ⟨n, rfl⟩; exact hrd) Try.underlying26 rfl hin ?_
            simp only [Act.put, List.setIfInBounds_toArray, List.set_cons_zero, List.set_cons_succ]
            quiet_step (fail)
            refine wpQuiet_nil ?_
            intro _ hw'
            obtain ⟨nq, hw''⟩ := hw'
            subst hw''
            go_wp2_with (first | (refine wpList_load_mid rfl 26 _ rfl _ _ rfl x _ (by exact hrd) Try.underlying26 rfl hin ?_))
            refine (add_old _ (w.heap.size + 1) w.heap.size t ks x HDg.out (by exact HSr.out.cell) (by exact HSr.out.idx) HX.out).mono ?_
            rintro e w3 ⟨rfl, hI3, hg3⟩
            have HS3 : Hid (St w w3 ds.length ks) := St.added (wr := wr.drewN nq) (HSr.out.kept ⟨rfl, rfl, rfl, Nat.le_refl _, fun _ _ _ => rfl⟩) hg3 hI3
            clear hI3 hg3 hrd hrx heq hu hxin hin hi
            go_wp2
            go_roundg (ds.length + 1 - (k + 1))
            case rel => exact ⟨k + 1, ks, by omega, rfl, by go_num, rfl, by omega, HS3.out⟩
            case measure => omega
          · have heq : ∀ w' : World, (binOp .eql 26 (.agg x.toArray) (.agg d.toArray)).run Try.prog w' = .ok (.bool false) w' := fun w' => by
              obtain ⟨r, h1, h2⟩ := run_eq_dig w' hxd HDg.out
              have h3 : r = false := by
                cases r with
                | false => rfl
                | true => exact absurd (h2.1 rfl) hxe
              subst h3
              simp only [binOp]
              unfold dv at h1
              simp [h1]
            have HT' : Hid (∀ s, s < t + 1 → ¬ ks[s]? = some d) := fun s hs => by
              by_cases e : s = t
              · subst e; rw [HX.out]; intro h; exact hxe (Option.some.inj h)
              · exact HT.out s (by omega)
            clear hxd
            go_wp2_with fail
            refine wp_region_quiet_lit (by kernel_rfl) (by kernel_rfl) ?_
            quiet_step (fail)
            quiet_step (fail)
            quiet_step (fail)
            refine wpQuiet_load_mid rfl 26 _ rfl _ _ rfl x _ (by rintro w' ⟨n, rfl⟩; exact hrx) Try.underlying26 rfl hxin ?_
            simp only [Act.put, List.setIfInBounds_toArray, List.set_cons_zero, List.set_cons_succ]
            refine wpQuiet_load_mid rfl 26 _ rfl _ _ rfl d _ (by rintro w' ⟨n, rfl⟩; exact hrd) Try.underlying26 rfl hin ?_
            simp only [Act.put, List.setIfInBounds_toArray, List.set_cons_zero, List.set_cons_succ]
            quiet_step (fail)
            refine wpQuiet_nil ?_
            intro _ hw'
            obtain ⟨nq, hw''⟩ := hw'
            subst hw''
            go_wp2
            go_roundg (ks.length + 1 - (t + 1))
            case rel => exact ⟨t + 1, by omega, rfl, by go_num, rfl, HT'.out, by obtain ⟨m, hm⟩ := HW.out; exact ⟨m + nq, by rw [hm, World.drewN_drewN]⟩⟩
            case measure => omega
        · have hte : t = ks.length := by omega
          subst hte
          have hnew : d ∉ ks := fun h => by
            obtain ⟨s, hs⟩ := List.getElem?_of_mem h
            exact HT.out s (List.getElem?_eq_some_iff.1 hs).1 hs
          have HNW : Hid (d ∉ ks) := hnew
          clear hnew HT
          have hown := HSr.out.own
          go_wp2_with (first
            | (refine wpList_load_mid rfl 26 (.tmp 6) rfl _ _ rfl d _ (by first | exact hrd | exact hrd3) Try.underlying26 rfl hin ?_)
            | (at_builtin; (refine wpList_append_fits _ rfl _ _ 22 rfl (w.heap.size + 2) 26 i0 32 Try.underlying22 hi hz1 (w.heap.size + 2) ks.length ds.length _ rfl (hown.alloc _) ⟨wr.heap.size, 0, none⟩ 1 1 d rfl (by simp [hlen]) (cells_new _ _ _ _ (by simp [hlen])) (by exact HDg.out.one) (by omega) ?_); intro w3 hown3 hgrow3; have hrd3 := range_app hrd hgrow3 (by have := HN.out _ (.inr rfl); omega)))
          have hgA : wr.grownBy w3 (some (w.heap.size + 2)) := (World.grownBy_alloc wr _ _).trans hgrow3
          have hI3 : Idx w3 w.heap.size ks := HSr.out.idx.kept hgA (by simp)
          have hc3 : w3.cell? ⟨w.heap.size + 1, 0, none⟩ = some (.map (some w.heap.size)) := hgA.cell HSr.out.cell (by simp)
          have hb3 : Below w.heap.size w w3 := HSr.out.bel.grown hgA HSr.out.bel.size (fun k hk => by cases hk; omega)
          refine (add_new _ (w.heap.size + 1) w.heap.size ks d HDg.out hc3 hI3 HNW.out (by omega)).mono ?_
          rintro e w4 ⟨rfl, hI4, hg4⟩
          have HS4 : Hid (St w w4 ds.length (ks ++ [d])) := by
            refine ⟨?_, hI4, hg4.cell hc3 (by simp), fun e he => ?_, hb3.grown hg4 hb3.size (fun k hk => by cases hk; exact Nat.le_refl _)⟩
            · have := hown3.kept hg4 (.inr (by simp [Value.ownBlock]))
              simpa using this
            · simp at he
              rcases he with he | he
              · exact HSr.out.dig e he
              · subst he; exact HDg.out
          clear hI4 hg4 hb3 hc3 hI3 hgA hown3 hgrow3 hrd3 hrd hown hin hi hins hone
          go_wp2
          go_roundg (ds.length + 1 - (k + 1))
          case rel => exact ⟨k + 1, ks ++ [d], by omega, rfl, by go_num, by simp, by simp; omega, HS4.out⟩
          case measure => omega
    · go_wp2
      go_ret
      exact ⟨rfl, hS.bel⟩
end Go.Proofs.Qxb6626922a
