import Derived.Test.Qxb6626922aRep
namespace Go.Proofs.Qxb6626922a
open Go.RowKit Go.Maps

attribute [local go_sem ↓] Go.wp_at_zero Go.wp_at_succ

set_option maxHeartbeats 400000 in
theorem rep_big (w : World) (a : Option Addr) (n c : Nat) (e : List Value) (he : Dig e) (hl : n ≤ maxLen) (h : okN n = false ∨ (okN n = true ∧ 4096 < n)) :
    Calls Try.prog 4 #[.slice a n c, dv e] w fun r w' => r = .returned (.bool true) ∧ Below w.heap.size w w' := by
  have HC := fun w => bytes8 w a n c e hl
  unfold maxLen at hl
  have hr : (w.alloc (.cells e.toArray 26)).rangeAt w.heap.size 0 e := range_new w e
  have hin : (Try.prog.info? 26).map (·.size) = some e.length := by rw [Try.size26, he.1]
  have hB0 : Below w.heap.size w (w.alloc (.cells e.toArray 26)) := (Below.refl _ _).alloc (Nat.le_refl _) _
  have HB0 : Hid (Below w.heap.size w (w.alloc (.cells e.toArray 26))) := hB0
  clear he hB0
  rcases h with h | ⟨h, h2⟩
  · rw [h] at HC
    have HH : Hid (∀ w, Calls Try.prog 8 #[.slice a n c, dv e] w fun e w' => e = .returned (.bool false) ∧ Below w.heap.size w w') := HC
    clear HC h
    unfold dv at *
    go_enter Try.func4, Try.ntmps4
    go_wp2_with (first | (refine wpList_load_mid rfl 26 _ rfl _ _ rfl e _ (by exact hr) Try.underlying26 rfl hin ?_))
    refine (HH.out _).mono ?_
    rintro r w1 ⟨rfl, hb1⟩
    go_wp2
    go_ret
    exact ⟨rfl, HB0.out.trans (hb1.mono HB0.out.size)⟩
  · rw [h] at HC
    have HH : Hid (∀ w, Calls Try.prog 8 #[.slice a n c, dv e] w fun e w' => e = .returned (.bool true) ∧ Below w.heap.size w w') := HC
    clear HC h
    unfold dv at *
    have h3 : (4096 : Int) < (n : Int) := by omega
    go_enter Try.func4, Try.ntmps4
    go_wp2_with (first | (refine wpList_load_mid rfl 26 _ rfl _ _ rfl e _ (by exact hr) Try.underlying26 rfl hin ?_))
    refine (HH.out _).mono ?_
    rintro r w1 ⟨rfl, hb1⟩
    go_wp2
    go_ret
    exact ⟨rfl, HB0.out.trans (hb1.mono HB0.out.size)⟩

set_option maxHeartbeats 3200000 in
theorem rep_main (w : World) (a : Option Addr) (ds : List (List Value)) (c : Nat) (e : List Value) (he : Dig e) (hl : ds.length ≤ 4096) (hD : Ds w a ds) :
    Calls Try.prog 4 #[.slice a ds.length c, dv e] w fun r w' => r = .returned (.bool true) ∧ Below w.heap.size w w' := by
  have HC := fun w => bytes8 w a ds.length c e (by unfold maxLen; omega)
  rw [okN_true (by omega)] at HC
  have HH : Hid (∀ w, Calls Try.prog 8 #[.slice a ds.length c, dv e] w fun e w' => e = .returned (.bool true) ∧ Below w.heap.size w w') := HC
  have hr : (w.alloc (.cells e.toArray 26)).rangeAt w.heap.size 0 e := range_new w e
  have hin : (Try.prog.info? 26).map (·.size) = some e.length := by rw [Try.size26, he.1]
  have HB0 : Hid (Below w.heap.size w (w.alloc (.cells e.toArray 26))) := (Below.refl _ _).alloc (Nat.le_refl _) _
  have hD' : Ds (w.alloc (.cells e.toArray 26)) a ds := hD.below HB0.out
  have HE : Hid (Dig e) := he
  obtain ⟨i0, hi, hz0, hz1, hz2⟩ := info_parts Try.info3
  clear he hD HC
  unfold dv at *
  go_enter Try.func4, Try.ntmps4
  go_wp2_with (first | (refine wpList_load_mid rfl 26 _ rfl _ _ rfl e _ (by exact hr) Try.underlying26 rfl hin ?_))
  refine (HH.out _).mono ?_
  rintro r w1 ⟨rfl, hb1⟩
  clear HH
  obtain ⟨N, hN⟩ : ∃ N, N = w.heap.size := ⟨_, rfl⟩
  rw [← hN] at hr ⊢
  have HN : Hid (N = w.heap.size) := hN
  clear hN
  generalize w.alloc (.cells e.toArray 26) = we at *
  have hNe : N < we.heap.size := range_lt hr 0 (e[0]'(by have := HE.out.1; omega)) (List.getElem?_eq_getElem _)
  go_wp2_with fail
  refine (new6 w1).mono ?_
  rintro r w2 ⟨rfl, hw2⟩
  have hs2 : w2.heap.size = w1.heap.size + 2 := by rw [hw2]; simp
  have HI2 : Hid (Idx w2 w1.heap.size []) := by rw [hw2]; exact (idx_made w1).kept (World.grownBy_alloc _ _ none) (by simp)
  have HC2 : Hid (w2.cell? ⟨w1.heap.size + 1, 0, none⟩ = some (.map (some w1.heap.size))) := by
    rw [hw2]
    have h := World.cell?_alloc_new (w1.alloc (.map #[] 0)) #[.map (some w1.heap.size)] 33 0
    rw [show (w1.alloc (.map #[] 0)).heap.size = w1.heap.size + 1 by simp] at h
    exact h
  have HB2 : Hid (Below we.heap.size we w2) := by rw [hw2]; exact (hb1.alloc hb1.size _).alloc (by have := hb1.size; simp; omega) _
  clear hw2
  go_wp2_with (at_make; refine wpList_make_full _ rfl _ _ 30 rfl w2.heap.size 3 i0 (.int .i64 0) 1 Try.underlying30 hi hz0 hz1 _ _ _ _ ds.length rfl rfl rfl rfl ?b2 ?b3 (Nat.le_refl _) ?_)
  case b2 => first | omega | (rw [hz2]; omega)
  case b3 => unfold maxLen; omega
  intro w3 hown3 hgrow3
  have hS : ∃ xs, Rs we w3 w1.heap.size ds [] 0 xs := ⟨_, hown3, HI2.out.kept hgrow3 (by simp), hgrow3.cell HC2.out (by simp), hb1.size, HB2.out.grown hgrow3 HB2.out.size (fun k hk => by cases hk), fun t d ht => absurd ht (Nat.not_lt_zero _), by simp, Nat.le_refl _⟩
  have hb : we.heap.size ≤ w1.heap.size := hb1.size
  clear hown3 hgrow3 HI2 HC2 HB2 hs2 hb1
  generalize w1.heap.size = b at *
  go_wp2_with fail
  go_loopg [7, 8] (ds.length + 1) (fun gk f i wr => ∃ (k : Nat) (ks : List (List Value)) (xs : List Value), k ≤ ds.length ∧ gk = ds.length + 1 - k ∧ i = .int .i64 k ∧ f = .int .i64 ks.length ∧ Rs we wr b ds ks k xs)
  case atStart => obtain ⟨xs, hS⟩ := hS; exact ⟨0, [], xs, Nat.zero_le _, rfl, rfl, rfl, hS⟩
  case round =>
    clear hS
    obtain ⟨k, ks, xs, hk, rfl, rfl, rfl, hS⟩ := hrel
    by_cases hlt : k < ds.length
    · rcases hD' with h | ⟨bd, od, rfl, hD⟩
      · simp [h] at hlt
      obtain ⟨d, hd⟩ : ∃ d, ds[k]? = some d := ⟨ds[k], List.getElem?_eq_getElem hlt⟩
      obtain ⟨hdg, hr0⟩ := hD k d hd
      have hrk : wr.rangeAt bd (od + k * 32) d := range_below hr0 hS.bel (range_lt hr0)
      have hink : (Try.prog.info? 26).map (·.size) = some d.length := by rw [Try.size26, hdg.1]
      have hkl : (k : Int) < (ds.length : Int) := by omega
      have hle := hS.le
      have HS : Hid (Rs we wr b ds ks k xs) := hS
      have HDg : Hid (Dig d) := hdg
      have HD : Hid (ds[k]? = some d) := hd
      clear hD hr0 hS hdg hd hr
      by_cases hmem : d ∈ ks
      · obtain ⟨i, hik⟩ := List.getElem?_of_mem hmem
        have HK : Hid (ks[i]? = some d) := hik
        have hil : i < ks.length := (List.getElem?_eq_some_iff.1 hik).1
        clear hik hmem
        go_wp2_with (first | (refine wpList_load_mid rfl 26 _ rfl _ _ rfl d _ (by exact hrk) Try.underlying26 rfl hink ?_))
        refine (add_old _ (b + 1) b i ks d HDg.out HS.out.cell HS.out.idx HK.out).mono ?_
        rintro r w4 ⟨rfl, hI4, hg4⟩
        have HS4 : Hid (Rs we (w4.setCell ⟨b + 2, k, none⟩ (.int .i64 ((i : Int) + 1))) b ds ks (k + 1) (xs.set k (.int .i64 ((i : Int) + 1)))) := HS.out.old hg4 hI4 HD.out HK.out
        obtain ⟨⟨v, hv⟩, hfr⟩ := (HS.out.same hg4 hI4).spot hlt
        clear hI4 hg4 hrk hink hi
        go_wp2
        go_roundg (ds.length + 1 - (k + 1))
        case rel => exact ⟨k + 1, ks, _, by omega, rfl, by go_num, rfl, HS4.out⟩
        case measure => omega
      · have HK : Hid (d ∉ ks) := hmem
        clear hmem
        go_wp2_with (first | (refine wpList_load_mid rfl 26 _ rfl _ _ rfl d _ (by exact hrk) Try.underlying26 rfl hink ?_))
        refine (add_new _ (b + 1) b ks d HDg.out HS.out.cell HS.out.idx HK.out (by omega)).mono ?_
        rintro r w4 ⟨rfl, hI4, hg4⟩
        have HS4 : Hid (Rs we (w4.setCell ⟨b + 2, k, none⟩ (.int .i64 ((ks.length : Int) + 1))) b ds (ks ++ [d]) (k + 1) (xs.set k (.int .i64 ((ks.length : Int) + 1)))) := HS.out.new hg4 hI4 HD.out
        have hI5 : Idx w4 b (ks ++ [d]) := hI4
        have hlenx : xs.length = ds.length := by simpa using HS.out.own.1
        have ho4 := HS.out.own.kept hg4 (.inr (by simp [Value.ownBlock]))
        have hfr : w4.frozen? ⟨b + 2, k, none⟩ = false := ho4.frozenAt k
        obtain ⟨v, hv⟩ : ∃ v, w4.cell? ⟨b + 2, k, none⟩ = some v := ⟨xs[k]'(by omega), by rw [ho4.cellAt k (by omega)]; exact List.getElem?_eq_getElem (by omega)⟩
        clear hI4 hg4 hrk hink hi hI5 hlenx ho4
        go_wp2
        go_roundg (ds.length + 1 - (k + 1))
        case rel => exact ⟨k + 1, ks ++ [d], _, by omega, rfl, by go_num, by simp, HS4.out⟩
        case measure => omega
    · have hke : k = ds.length := by omega
      subst hke
      clear hlt hk hi hz0 hz1 hz2
      have hle := hS.le
      go_wp2_with fail
      go_loopg [11] ds.length (fun gk i wr => ((∃ j : Nat, j < ds.length ∧ i = .int .i64 j ∧ gk = j + 1) ∨ (i = .int .i64 (-1) ∧ gk = 0)) ∧ Rs we wr b ds ks ds.length xs)
      case atStart =>
        refine ⟨?_, hS⟩
        by_cases h0 : ds.length = 0
        · exact .inr ⟨by rw [h0]; rfl, h0⟩
        · exact .inl ⟨ds.length - 1, by omega, by congr 1; omega, by omega⟩
      case round =>
        clear hS
        obtain ⟨hrel, hS⟩ := hrel
        rcases hrel with ⟨j, hj, rfl, rfl⟩ | ⟨rfl, rfl⟩
        · rcases hD' with h | ⟨bd, od, rfl, hD⟩
          · simp [h] at hj
          obtain ⟨d, hd⟩ : ∃ d, ds[j]? = some d := ⟨ds[j], List.getElem?_eq_getElem hj⟩
          obtain ⟨hdg, hr0⟩ := hD j d hd
          obtain ⟨i, hik, hpc⟩ := hS.place hj hd
          have hrk : wr.rangeAt bd (od + j * 32) d := range_below hr0 hS.bel (range_lt hr0)
          have hink : (Try.prog.info? 26).map (·.size) = some d.length := by rw [Try.size26, hdg.1]
          have hkl : (j : Int) < (ds.length : Int) := by omega
          have hil : i < ks.length := (List.getElem?_eq_some_iff.1 hik).1
          have HS : Hid (Rs we wr b ds ks ds.length xs) := hS
          have HDg : Hid (Dig d) := hdg
          have HK : Hid (ks[i]? = some d) := hik
          have HD : Hid (ds[j]? = some d) := hd
          clear hD hr0 hS hdg hd hr hik hpc
          go_wp2_with (first | (refine wpList_load_mid rfl 26 _ rfl _ _ rfl d _ (by exact hrk) Try.underlying26 rfl hink ?_))
          refine (add_old _ (b + 1) b i ks d HDg.out HS.out.cell HS.out.idx HK.out).mono ?_
          rintro r w4 ⟨rfl, hI4, hg4⟩
          have HS4 : Hid (Rs we w4 b ds ks ds.length xs) := HS.out.same hg4 hI4
          have hpc4 : w4.cell? ⟨b + 2, j, none⟩ = some (.int .i64 ((i : Int) + 1)) := by
            obtain ⟨i', h1, h2⟩ := HS4.out.place hj HD.out
            have h3 : i' = i := by
              have hnd := HS4.out.idx.choose_spec.2.2.1
              exact (List.getElem?_inj (List.getElem?_eq_some_iff.1 h1).1 hnd).1 (h1.trans HK.out.symm)
            rw [← h3]; exact h2
          clear hI4 hg4 hrk hink
          go_wp2
          go_roundg j
          case rel =>
            refine ⟨?_, HS4.out⟩
            by_cases h0 : j = 0
            · subst h0; exact .inr ⟨rfl, rfl⟩
            · exact .inl ⟨j - 1, by omega, by congr 1; omega, by omega⟩
          case measure => omega
        · go_wp2_with fail
          go_loopg [14, 15] (ds.length + 1) (fun gk q i wr => ∃ t : Nat, t ≤ ds.length ∧ gk = ds.length + 1 - t ∧ i = .int .i64 t ∧ q = .int .i64 (-1) ∧ Hid (∀ s, s < t → ¬ ds[s]? = some e) ∧ Rs we wr b ds ks ds.length xs)
          case atStart => exact ⟨0, Nat.zero_le _, rfl, rfl, rfl, fun s hs => absurd hs (Nat.not_lt_zero _), hS⟩
          case round =>
            clear hS
            obtain ⟨t, ht, rfl, rfl, rfl, HT, hS⟩ := hrel
            have HS : Hid (Rs we wr b ds ks ds.length xs) := hS
            have hre : wr.rangeAt N 0 e := range_below hr hS.bel (range_lt hr)
            clear hS
            by_cases htl : t < ds.length
            · rcases hD' with h | ⟨bd, od, rfl, hD⟩
              · simp [h] at htl
              obtain ⟨x, hx⟩ : ∃ x, ds[t]? = some x := ⟨ds[t], List.getElem?_eq_getElem htl⟩
              obtain ⟨hdg, hr0⟩ := hD t x hx
              have hrk : wr.rangeAt bd (od + t * 32) x := range_below hr0 HS.out.bel (range_lt hr0)
              have hink : (Try.prog.info? 26).map (·.size) = some x.length := by rw [Try.size26, hdg.1]
              have hkl : (t : Int) < (ds.length : Int) := by omega
              have HX : Hid (ds[t]? = some x) := hx
              clear hx hr0 hD hr
              by_cases hxe : x = e
              · subst hxe
                have heq : ∀ w' : World, (binOp .eql 26 (.agg x.toArray) (.agg x.toArray)).run Try.prog w' = .ok (.bool true) w' := fun w' => by
                  obtain ⟨r, h1, h2⟩ := run_eq_dig w' hdg hdg
                  have h3 := h2.2 rfl
                  subst h3
                  simp only [binOp]
                  unfold dv at h1
                  simp [h1]
                clear hdg
                go_wp2_with fail
                refine wp_region_quiet_lit (by kernel_rfl) (by kernel_rfl) ?_
                quiet_step (fail)
                quiet_step (fail)
                quiet_step (fail)
                refine wpQuiet_load_mid rfl 26 _ rfl _ _ rfl x _ (by rintro w' ⟨n, rfl⟩; exact hrk) Try.underlying26 rfl hink ?_
                simp only [Act.put, List.setIfInBounds_toArray, List.set_cons_zero, List.set_cons_succ]
                refine wpQuiet_load_mid rfl 26 _ rfl _ _ rfl x _ (by rintro w' ⟨n, rfl⟩; exact hre) Try.underlying26 rfl hin ?_
                simp only [Act.put, List.setIfInBounds_toArray, List.set_cons_zero, List.set_cons_succ]
                quiet_step (fail)
                refine wpQuiet_nil ?_
                intro _ hw'
                obtain ⟨nq, hw''⟩ := hw'
                subst hw''
                obtain ⟨i, hik, _⟩ := HS.out.place htl HX.out
                have HK : Hid (ks[i]? = some x) := hik
                have hil : i < ks.length := (List.getElem?_eq_some_iff.1 hik).1
                clear hik
                go_wp2_with (first | (refine wpList_load_mid rfl 26 _ rfl _ _ rfl x _ (by exact hre) Try.underlying26 rfl hin ?_))
                refine (add_old _ (b + 1) b i ks x HE.out (by exact HS.out.cell) (by exact HS.out.idx) HK.out).mono ?_
                rintro r w4 ⟨rfl, hI4, hg4⟩
                have HS4 : Hid (Rs we w4 b ds ks ds.length xs) := Rs.same (wr := wr.drewN nq) (HS.out.kept ⟨rfl, rfl, rfl, Nat.le_refl _, fun _ _ _ => rfl⟩) hg4 hI4
                have hpc4 : w4.cell? ⟨b + 2, t, none⟩ = some (.int .i64 ((i : Int) + 1)) := by
                  obtain ⟨i', h1, h2⟩ := HS4.out.place htl HX.out
                  have h3 : i' = i := by
                    have hnd := HS4.out.idx.choose_spec.2.2.1
                    exact (List.getElem?_inj (List.getElem?_eq_some_iff.1 h1).1 hnd).1 (h1.trans HK.out.symm)
                  rw [← h3]; exact h2
                clear hI4 hg4 hrk hink hre heq
                go_wp2
                go_ret
                exact ⟨rfl, HB0.out.trans (HS4.out.bel.mono HB0.out.size)⟩
              · have heq : ∀ w' : World, (binOp .eql 26 (.agg x.toArray) (.agg e.toArray)).run Try.prog w' = .ok (.bool false) w' := fun w' => by
                  obtain ⟨r, h1, h2⟩ := run_eq_dig w' hdg HE.out
                  have h3 : r = false := by
                    cases r with
                    | false => rfl
                    | true => exact absurd (h2.1 rfl) hxe
                  subst h3
                  simp only [binOp]
                  unfold dv at h1
                  simp [h1]
                have HT' : Hid (∀ s, s < t + 1 → ¬ ds[s]? = some e) := fun s hs => by
                  by_cases e1 : s = t
                  · subst e1; rw [HX.out]; intro h; exact hxe (Option.some.inj h)
                  · exact HT.out s (by omega)
                clear hdg hxe
                go_wp2_with fail
                refine wp_region_quiet_lit (by kernel_rfl) (by kernel_rfl) ?_
                quiet_step (fail)
                quiet_step (fail)
                quiet_step (fail)
                refine wpQuiet_load_mid rfl 26 _ rfl _ _ rfl x _ (by rintro w' ⟨n, rfl⟩; exact hrk) Try.underlying26 rfl hink ?_
                simp only [Act.put, List.setIfInBounds_toArray, List.set_cons_zero, List.set_cons_succ]
                refine wpQuiet_load_mid rfl 26 _ rfl _ _ rfl e _ (by rintro w' ⟨n, rfl⟩; exact hre) Try.underlying26 rfl hin ?_
                simp only [Act.put, List.setIfInBounds_toArray, List.set_cons_zero, List.set_cons_succ]
                quiet_step (fail)
                refine wpQuiet_nil ?_
                intro _ hw'
                obtain ⟨nq, hw''⟩ := hw'
                subst hw''
                go_wp2
                go_roundg (ds.length + 1 - (t + 1))
                case rel => exact ⟨t + 1, by omega, rfl, by go_num, rfl, HT'.out, HS.out.kept ⟨rfl, rfl, rfl, Nat.le_refl _, fun _ _ _ => rfl⟩⟩
                case measure => omega
            · have hte : t = ds.length := by omega
              subst hte
              have HNW : Hid (e ∉ ks) := fun h => by
                obtain ⟨s, hs⟩ := List.getElem?_of_mem (HS.out.sub e h)
                exact HT.out s (List.getElem?_eq_some_iff.1 hs).1 hs
              clear HT hr
              go_wp2_with (first | (refine wpList_load_mid rfl 26 _ rfl _ _ rfl e _ (by exact hre) Try.underlying26 rfl hin ?_))
              refine (add_new _ (b + 1) b ks e HE.out HS.out.cell HS.out.idx HNW.out (by omega)).mono ?_
              rintro r w4 ⟨rfl, hI4, hg4⟩
              have HB4 : Hid (Below we.heap.size we w4) := HS.out.bel.grown hg4 HS.out.bel.size (fun k hk => by cases hk; exact hb)
              clear hI4 hg4 hre
              go_wp2
              go_ret
              exact ⟨rfl, HB0.out.trans (HB4.out.mono HB0.out.size)⟩
end Go.Proofs.Qxb6626922a
