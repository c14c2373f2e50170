import Derived.Test.Qxb6627205aMod
namespace Go.Proofs.Qxb6627205a
open Go.RowKit Go.Maps

attribute [local go_sem ↓] Go.wp_at_zero Go.wp_at_succ

theorem rule_at {w : World} {a : Option Addr} {rs : List Rule} {k : Nat} (h : Rl w a rs) (hk : k < rs.length) : ∃ b o r, a = some ⟨b, o, none⟩ ∧ R1 w b (o + k * 3) r := by
  rcases h with h | ⟨b, o, h1, h2⟩
  · simp [h] at hk
  · exact ⟨b, o, rs[k], h1, h2 k _ (List.getElem?_eq_getElem hk)⟩
theorem pat_at {w : World} {a : Option Addr} {ps : List Pat} {k : Nat} (h : Ps w a ps) (hk : k < ps.length) : ∃ b o p, a = some ⟨b, o, none⟩ ∧ w.cell? ⟨b, o + k * 2 + 1, none⟩ = some (.string p) ∧ p.size ≤ maxLen := by
  rcases h with h | ⟨b, o, h1, h2⟩
  · simp [h] at hk
  · have := h2 k _ (List.getElem?_eq_getElem hk)
    exact ⟨b, o, _, h1, this.2.1, this.2.2.2.2⟩
theorem str_at {w : World} {a : Option Addr} {ss : List ByteArray} {k : Nat} (h : Ss w a ss) (hk : k < ss.length) : ∃ b o s, a = some ⟨b, o, none⟩ ∧ w.cell? ⟨b, o + k, none⟩ = some (.string s) ∧ s.size ≤ maxLen := by
  rcases h with h | ⟨b, o, h1, h2⟩
  · simp [h] at hk
  · have := h2 k _ (List.getElem?_eq_getElem hk)
    exact ⟨b, o, _, h1, this.1, this.2⟩

set_option maxRecDepth 100000 in
set_option maxHeartbeats 8000000 in
theorem bytes5 (w : World) (a : Option Addr) (deny : List Rule) (c : Nat) (a2 : Option Addr) (allow : List Rule) (c2 : Nat) (hR : Rl w a deny) (hR2 : Rl w a2 allow) (hd : deny.length ≤ maxLen) (ha : allow.length ≤ maxLen) (a' : Option Addr) (vs : List ByteArray) (c' : Nat) (hS : Ss w a' vs) (hl : vs.length ≤ maxLen) (m : ByteArray) (hm : m.size ≤ maxLen) :
    Calls Try.prog 5 #[.slice a deny.length c, .slice a2 allow.length c2, .slice a' vs.length c', .string m] w fun e w' => IsB e ∧ w' = w := by
  have HR1 : Hid (Rl w a deny) := hR
  have HR2 : Hid (Rl w a2 allow) := hR2
  have HS : Hid (Ss w a' vs) := hS
  unfold maxLen at hd ha hl hm
  clear hR hR2 hS
  by_cases hT19 : 1048576 < deny.length
  · have hT19i : (1048576 : Int) < (deny.length : Int) := by omega
    go_enter Try.func5, Try.ntmps5
    go_wp2
    go_ret
    exact ⟨⟨false, rfl⟩, rfl⟩
  have hT19i : (deny.length : Int) ≤ (1048576 : Int) := by omega
  go_enter Try.func5, Try.ntmps5
  go_wp2
  go_loopg [9, 10] (deny.length + 1) (fun gk zv i wi => ∃ k z : Nat, k ≤ deny.length ∧ gk = deny.length + 1 - k ∧ i = .int .i64 k ∧ zv = .int .i64 z ∧ z ≤ 1048576 ∧ wi = w)
  case atStart => exact ⟨0, deny.length, Nat.zero_le _, rfl, rfl, by go_num, by omega, rfl⟩
  case round =>
    obtain ⟨k, z, hk, rfl, rfl, rfl, hz, rfl⟩ := hrel
    by_cases hkl : k < deny.length
    · obtain ⟨b, o, r, hA, A1, C1, A2, C2, c1, c2, c3, hp1, hp2, n1, n2, n3⟩ : ∃ b o r, a = some ⟨b, o, none⟩ ∧ R1 wr b (o + k * 3) r := rule_at HR1.out hkl
      subst hA
      have HPpr : Hid (Ps wr A1 r.pr) := hp1
      have HPpa : Hid (Ps wr A2 r.pa) := hp2
      have hkl' : (k : Int) < (deny.length : Int) := by omega
      unfold maxLen at n1 n2 n3
      clear hp1 hp2
      by_cases hT24 : 1048576 < r.name.size
      · have hT24i : (1048576 : Int) < (r.name.size : Int) := by omega
        go_wp2
        go_ret
        exact ⟨⟨false, rfl⟩, rfl⟩
      have hT24i : (r.name.size : Int) ≤ (1048576 : Int) := by omega
      by_cases hT25 : 1048576 < z + r.name.size
      · have hT25i : (1048576 : Int) < (z : Int) + (r.name.size : Int) := by omega
        go_wp2
        go_ret
        exact ⟨⟨false, rfl⟩, rfl⟩
      have hT25i : (z : Int) + (r.name.size : Int) ≤ (1048576 : Int) := by omega
      by_cases hT26 : 1048576 < r.pr.length
      · have hT26i : (1048576 : Int) < (r.pr.length : Int) := by omega
        go_wp2
        go_ret
        exact ⟨⟨false, rfl⟩, rfl⟩
      have hT26i : (r.pr.length : Int) ≤ (1048576 : Int) := by omega
      by_cases hT27 : 1048576 < z + r.name.size + r.pr.length
      · have hT27i : (1048576 : Int) < (z : Int) + (r.name.size : Int) + (r.pr.length : Int) := by omega
        go_wp2
        go_ret
        exact ⟨⟨false, rfl⟩, rfl⟩
      have hT27i : (z : Int) + (r.name.size : Int) + (r.pr.length : Int) ≤ (1048576 : Int) := by omega
      go_wp2
      go_loopg [9, 11] (r.pr.length + 1) (fun gk zv i wi => ∃ t y : Nat, t ≤ r.pr.length ∧ gk = r.pr.length + 1 - t ∧ i = .int .i64 t ∧ zv = .int .i64 y ∧ y ≤ 1048576 ∧ wi = wr)
      case atStart => exact ⟨0, z + r.name.size + r.pr.length, Nat.zero_le _, rfl, rfl, by go_num, by omega, rfl⟩
      case round =>
        obtain ⟨t, y, ht, rfl, rfl, rfl, hy, rfl⟩ := hrel
        by_cases htl : t < r.pr.length
        · obtain ⟨b2, o2, p, hA, hp1, hp2⟩ : ∃ b2 o2 p, A1 = some ⟨b2, o2, none⟩ ∧ wr.cell? ⟨b2, o2 + t * 2 + 1, none⟩ = some (.string p) ∧ p.size ≤ maxLen := pat_at HPpr.out htl
          subst hA
          have htl' : (t : Int) < (r.pr.length : Int) := by omega
          unfold maxLen at hp2
          by_cases hT28 : 1048576 < p.size
          · have hT28i : (1048576 : Int) < (p.size : Int) := by omega
            go_wp2
            go_ret
            exact ⟨⟨false, rfl⟩, rfl⟩
          have hT28i : (p.size : Int) ≤ (1048576 : Int) := by omega
          by_cases hT29 : 1048576 < y + p.size
          · have hT29i : (1048576 : Int) < (y : Int) + (p.size : Int) := by omega
            go_wp2
            go_ret
            exact ⟨⟨false, rfl⟩, rfl⟩
          have hT29i : (y : Int) + (p.size : Int) ≤ (1048576 : Int) := by omega
          go_wp2
          go_roundg (r.pr.length + 1 - (t + 1))
          case rel => exact ⟨t + 1, y + p.size, by omega, rfl, by go_num, by go_num, by omega, rfl⟩
          case measure => omega
        · have htl' : (r.pr.length : Int) ≤ (t : Int) := by omega
          by_cases hT20 : 1048576 < r.pa.length
          · have hT20i : (1048576 : Int) < (r.pa.length : Int) := by omega
            go_wp2
            go_ret
            exact ⟨⟨false, rfl⟩, rfl⟩
          have hT20i : (r.pa.length : Int) ≤ (1048576 : Int) := by omega
          by_cases hT21 : 1048576 < y + r.pa.length
          · have hT21i : (1048576 : Int) < (y : Int) + (r.pa.length : Int) := by omega
            go_wp2
            go_ret
            exact ⟨⟨false, rfl⟩, rfl⟩
          have hT21i : (y : Int) + (r.pa.length : Int) ≤ (1048576 : Int) := by omega
          go_wp2
          go_loopg [9, 12] (r.pa.length + 1) (fun gk zv i wi => ∃ t y : Nat, t ≤ r.pa.length ∧ gk = r.pa.length + 1 - t ∧ i = .int .i64 t ∧ zv = .int .i64 y ∧ y ≤ 1048576 ∧ wi = wr)
          case atStart => exact ⟨0, y + r.pa.length, Nat.zero_le _, rfl, rfl, by go_num, by omega, rfl⟩
          case round =>
            obtain ⟨t, y, ht, rfl, rfl, rfl, hy, rfl⟩ := hrel
            by_cases htl : t < r.pa.length
            · obtain ⟨b2, o2, p, hA, hp1, hp2⟩ : ∃ b2 o2 p, A2 = some ⟨b2, o2, none⟩ ∧ wr.cell? ⟨b2, o2 + t * 2 + 1, none⟩ = some (.string p) ∧ p.size ≤ maxLen := pat_at HPpa.out htl
              subst hA
              have htl' : (t : Int) < (r.pa.length : Int) := by omega
              unfold maxLen at hp2
              by_cases hT22 : 1048576 < p.size
              · have hT22i : (1048576 : Int) < (p.size : Int) := by omega
                go_wp2
                go_ret
                exact ⟨⟨false, rfl⟩, rfl⟩
              have hT22i : (p.size : Int) ≤ (1048576 : Int) := by omega
              by_cases hT23 : 1048576 < y + p.size
              · have hT23i : (1048576 : Int) < (y : Int) + (p.size : Int) := by omega
                go_wp2
                go_ret
                exact ⟨⟨false, rfl⟩, rfl⟩
              have hT23i : (y : Int) + (p.size : Int) ≤ (1048576 : Int) := by omega
              go_wp2
              go_roundg (r.pa.length + 1 - (t + 1))
              case rel => exact ⟨t + 1, y + p.size, by omega, rfl, by go_num, by go_num, by omega, rfl⟩
              case measure => omega
            · have htl' : (r.pa.length : Int) ≤ (t : Int) := by omega
              go_wp2
              go_roundg (deny.length + 1 - (k + 1))
              case rel => exact ⟨k + 1, y, by omega, rfl, by go_num, rfl, by omega, rfl⟩
              case measure => omega
    · have hkl' : (deny.length : Int) ≤ (k : Int) := by omega
      by_cases hT7 : 1048576 < allow.length
      · have hT7i : (1048576 : Int) < (allow.length : Int) := by omega
        go_wp2
        go_ret
        exact ⟨⟨false, rfl⟩, rfl⟩
      have hT7i : (allow.length : Int) ≤ (1048576 : Int) := by omega
      by_cases hT8 : 1048576 < z + allow.length
      · have hT8i : (1048576 : Int) < (z : Int) + (allow.length : Int) := by omega
        go_wp2
        go_ret
        exact ⟨⟨false, rfl⟩, rfl⟩
      have hT8i : (z : Int) + (allow.length : Int) ≤ (1048576 : Int) := by omega
      go_wp2
      go_loopg [9, 13] (allow.length + 1) (fun gk zv i wi => ∃ k z : Nat, k ≤ allow.length ∧ gk = allow.length + 1 - k ∧ i = .int .i64 k ∧ zv = .int .i64 z ∧ z ≤ 1048576 ∧ wi = wr)
      case atStart => exact ⟨0, z + allow.length, Nat.zero_le _, rfl, rfl, by go_num, by omega, rfl⟩
      case round =>
        obtain ⟨k, z, hk, rfl, rfl, rfl, hz, rfl⟩ := hrel
        by_cases hkl : k < allow.length
        · obtain ⟨b, o, r, hA, A1, C1, A2, C2, c1, c2, c3, hp1, hp2, n1, n2, n3⟩ : ∃ b o r, a2 = some ⟨b, o, none⟩ ∧ R1 wr b (o + k * 3) r := rule_at HR2.out hkl
          subst hA
          have HPpr : Hid (Ps wr A1 r.pr) := hp1
          have HPpa : Hid (Ps wr A2 r.pa) := hp2
          have hkl' : (k : Int) < (allow.length : Int) := by omega
          unfold maxLen at n1 n2 n3
          clear hp1 hp2
          by_cases hT13 : 1048576 < r.name.size
          · have hT13i : (1048576 : Int) < (r.name.size : Int) := by omega
            go_wp2
            go_ret
            exact ⟨⟨false, rfl⟩, rfl⟩
          have hT13i : (r.name.size : Int) ≤ (1048576 : Int) := by omega
          by_cases hT14 : 1048576 < z + r.name.size
          · have hT14i : (1048576 : Int) < (z : Int) + (r.name.size : Int) := by omega
            go_wp2
            go_ret
            exact ⟨⟨false, rfl⟩, rfl⟩
          have hT14i : (z : Int) + (r.name.size : Int) ≤ (1048576 : Int) := by omega
          by_cases hT15 : 1048576 < r.pr.length
          · have hT15i : (1048576 : Int) < (r.pr.length : Int) := by omega
            go_wp2
            go_ret
            exact ⟨⟨false, rfl⟩, rfl⟩
          have hT15i : (r.pr.length : Int) ≤ (1048576 : Int) := by omega
          by_cases hT16 : 1048576 < z + r.name.size + r.pr.length
          · have hT16i : (1048576 : Int) < (z : Int) + (r.name.size : Int) + (r.pr.length : Int) := by omega
            go_wp2
            go_ret
            exact ⟨⟨false, rfl⟩, rfl⟩
          have hT16i : (z : Int) + (r.name.size : Int) + (r.pr.length : Int) ≤ (1048576 : Int) := by omega
          go_wp2
          go_loopg [9, 14] (r.pr.length + 1) (fun gk zv i wi => ∃ t y : Nat, t ≤ r.pr.length ∧ gk = r.pr.length + 1 - t ∧ i = .int .i64 t ∧ zv = .int .i64 y ∧ y ≤ 1048576 ∧ wi = wr)
          case atStart => exact ⟨0, z + r.name.size + r.pr.length, Nat.zero_le _, rfl, rfl, by go_num, by omega, rfl⟩
          case round =>
            obtain ⟨t, y, ht, rfl, rfl, rfl, hy, rfl⟩ := hrel
            by_cases htl : t < r.pr.length
            · obtain ⟨b2, o2, p, hA, hp1, hp2⟩ : ∃ b2 o2 p, A1 = some ⟨b2, o2, none⟩ ∧ wr.cell? ⟨b2, o2 + t * 2 + 1, none⟩ = some (.string p) ∧ p.size ≤ maxLen := pat_at HPpr.out htl
              subst hA
              have htl' : (t : Int) < (r.pr.length : Int) := by omega
              unfold maxLen at hp2
              by_cases hT17 : 1048576 < p.size
              · have hT17i : (1048576 : Int) < (p.size : Int) := by omega
                go_wp2
                go_ret
                exact ⟨⟨false, rfl⟩, rfl⟩
              have hT17i : (p.size : Int) ≤ (1048576 : Int) := by omega
              by_cases hT18 : 1048576 < y + p.size
              · have hT18i : (1048576 : Int) < (y : Int) + (p.size : Int) := by omega
                go_wp2
                go_ret
                exact ⟨⟨false, rfl⟩, rfl⟩
              have hT18i : (y : Int) + (p.size : Int) ≤ (1048576 : Int) := by omega
              go_wp2
              go_roundg (r.pr.length + 1 - (t + 1))
              case rel => exact ⟨t + 1, y + p.size, by omega, rfl, by go_num, by go_num, by omega, rfl⟩
              case measure => omega
            · have htl' : (r.pr.length : Int) ≤ (t : Int) := by omega
              by_cases hT9 : 1048576 < r.pa.length
              · have hT9i : (1048576 : Int) < (r.pa.length : Int) := by omega
                go_wp2
                go_ret
                exact ⟨⟨false, rfl⟩, rfl⟩
              have hT9i : (r.pa.length : Int) ≤ (1048576 : Int) := by omega
              by_cases hT10 : 1048576 < y + r.pa.length
              · have hT10i : (1048576 : Int) < (y : Int) + (r.pa.length : Int) := by omega
                go_wp2
                go_ret
                exact ⟨⟨false, rfl⟩, rfl⟩
              have hT10i : (y : Int) + (r.pa.length : Int) ≤ (1048576 : Int) := by omega
              go_wp2
              go_loopg [9, 15] (r.pa.length + 1) (fun gk zv i wi => ∃ t y : Nat, t ≤ r.pa.length ∧ gk = r.pa.length + 1 - t ∧ i = .int .i64 t ∧ zv = .int .i64 y ∧ y ≤ 1048576 ∧ wi = wr)
              case atStart => exact ⟨0, y + r.pa.length, Nat.zero_le _, rfl, rfl, by go_num, by omega, rfl⟩
              case round =>
                obtain ⟨t, y, ht, rfl, rfl, rfl, hy, rfl⟩ := hrel
                by_cases htl : t < r.pa.length
                · obtain ⟨b2, o2, p, hA, hp1, hp2⟩ : ∃ b2 o2 p, A2 = some ⟨b2, o2, none⟩ ∧ wr.cell? ⟨b2, o2 + t * 2 + 1, none⟩ = some (.string p) ∧ p.size ≤ maxLen := pat_at HPpa.out htl
                  subst hA
                  have htl' : (t : Int) < (r.pa.length : Int) := by omega
                  unfold maxLen at hp2
                  by_cases hT11 : 1048576 < p.size
                  · have hT11i : (1048576 : Int) < (p.size : Int) := by omega
                    go_wp2
                    go_ret
                    exact ⟨⟨false, rfl⟩, rfl⟩
                  have hT11i : (p.size : Int) ≤ (1048576 : Int) := by omega
                  by_cases hT12 : 1048576 < y + p.size
                  · have hT12i : (1048576 : Int) < (y : Int) + (p.size : Int) := by omega
                    go_wp2
                    go_ret
                    exact ⟨⟨false, rfl⟩, rfl⟩
                  have hT12i : (y : Int) + (p.size : Int) ≤ (1048576 : Int) := by omega
                  go_wp2
                  go_roundg (r.pa.length + 1 - (t + 1))
                  case rel => exact ⟨t + 1, y + p.size, by omega, rfl, by go_num, by go_num, by omega, rfl⟩
                  case measure => omega
                · have htl' : (r.pa.length : Int) ≤ (t : Int) := by omega
                  go_wp2
                  go_roundg (allow.length + 1 - (k + 1))
                  case rel => exact ⟨k + 1, y, by omega, rfl, by go_num, rfl, by omega, rfl⟩
                  case measure => omega
        · have hkl' : (allow.length : Int) ≤ (k : Int) := by omega
          by_cases hT1 : 1048576 < vs.length
          · have hT1i : (1048576 : Int) < (vs.length : Int) := by omega
            go_wp2
            go_ret
            exact ⟨⟨false, rfl⟩, rfl⟩
          have hT1i : (vs.length : Int) ≤ (1048576 : Int) := by omega
          by_cases hT2 : 1048576 < z + vs.length
          · have hT2i : (1048576 : Int) < (z : Int) + (vs.length : Int) := by omega
            go_wp2
            go_ret
            exact ⟨⟨false, rfl⟩, rfl⟩
          have hT2i : (z : Int) + (vs.length : Int) ≤ (1048576 : Int) := by omega
          go_wp2
          go_loopg [9, 16] (vs.length + 1) (fun gk zv i wi => ∃ k q : Nat, k ≤ vs.length ∧ gk = vs.length + 1 - k ∧ i = .int .i64 k ∧ zv = .int .i64 q ∧ q ≤ 1048576 ∧ wi = wr)
          case atStart => exact ⟨0, z + vs.length, Nat.zero_le _, rfl, rfl, by go_num, by omega, rfl⟩
          case round =>
            obtain ⟨k, q, hk, rfl, rfl, rfl, hq, rfl⟩ := hrel
            by_cases hkl : k < vs.length
            · obtain ⟨b, o, s, hA, hc, hs⟩ : ∃ b o s, a' = some ⟨b, o, none⟩ ∧ wr.cell? ⟨b, o + k, none⟩ = some (.string s) ∧ s.size ≤ maxLen := str_at HS.out hkl
              subst hA
              have hkl' : (k : Int) < (vs.length : Int) := by omega
              unfold maxLen at hs
              by_cases hT3 : 1048576 < s.size
              · have hT3i : (1048576 : Int) < (s.size : Int) := by omega
                go_wp2
                go_ret
                exact ⟨⟨false, rfl⟩, rfl⟩
              have hT3i : (s.size : Int) ≤ (1048576 : Int) := by omega
              by_cases hT4 : 1048576 < q + s.size
              · have hT4i : (1048576 : Int) < (q : Int) + (s.size : Int) := by omega
                go_wp2
                go_ret
                exact ⟨⟨false, rfl⟩, rfl⟩
              have hT4i : (q : Int) + (s.size : Int) ≤ (1048576 : Int) := by omega
              go_wp2
              go_roundg (vs.length + 1 - (k + 1))
              case rel => exact ⟨k + 1, q + s.size, by omega, rfl, by go_num, by go_num, by omega, rfl⟩
              case measure => omega
            · have hkl' : (vs.length : Int) ≤ (k : Int) := by omega
              by_cases hT5 : 1048576 < m.size
              · have hT5i : (1048576 : Int) < (m.size : Int) := by omega
                go_wp2
                go_ret
                exact ⟨⟨false, rfl⟩, rfl⟩
              have hT5i : (m.size : Int) ≤ (1048576 : Int) := by omega
              by_cases hT6 : 1048576 < q + m.size
              · have hT6i : (1048576 : Int) < (q : Int) + (m.size : Int) := by omega
                go_wp2
                go_ret
                exact ⟨⟨false, rfl⟩, rfl⟩
              have hT6i : (q : Int) + (m.size : Int) ≤ (1048576 : Int) := by omega
              go_wp2
              go_ret
              exact ⟨⟨true, rfl⟩, rfl⟩
end Go.Proofs.Qxb6627205a
