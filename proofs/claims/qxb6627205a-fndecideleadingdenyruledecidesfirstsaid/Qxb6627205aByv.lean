import Derived.Test.Qxb6627205aGuard
import Derived.Deep.RegionHeld3
import Derived.Deep.CutBlock
import Derived.Deep.DrawnRows
namespace Go.Proofs.Qxb6627205a
open Go.RowKit

attribute [local go_sem ↓] Go.wp_at_zero Go.wp_at_succ
theorem at_cell {w : World} {b : Nat} {c : Array Value} {t : TypeId} (h : w.heap[b]? = some (.cells c t)) (i : Nat) : w.cell? ⟨b, i, none⟩ = c[i]? := by simp [World.cell?, h]
theorem at_new (w : World) (o : Obj) : (w.alloc o).heap[w.heap.size]? = some o := by show (w.heap.push o)[w.heap.size]? = some o; simp
theorem at_rule {w : World} {a : Option Addr} {rs : List Rule} {k : Nat} (h : Rl w a rs) (hk : k < rs.length) : ∃ b o r, a = some ⟨b, o, none⟩ ∧ R1 w b (o + k * 3) r := by
  rcases h with h | ⟨b, o, h1, h2⟩
  · simp [h] at hk
  · exact ⟨b, o, rs[k], h1, h2 k _ (List.getElem?_eq_getElem hk)⟩
theorem at_pat {w : World} {a : Option Addr} {ps : List Pat} {k : Nat} (h : Ps w a ps) (hk : k < ps.length) : ∃ b o p, a = some ⟨b, o, none⟩ ∧ w.cell? ⟨b, o + k * 2 + 1, none⟩ = some (.string p) ∧ p.size ≤ maxLen := by
  rcases h with h | ⟨b, o, h1, h2⟩
  · simp [h] at hk
  · have := h2 k _ (List.getElem?_eq_getElem hk)
    exact ⟨b, o, _, h1, this.2.1, this.2.2.2.2⟩
theorem at_str {w : World} {a : Option Addr} {ss : List ByteArray} {k : Nat} (h : Ss w a ss) (hk : k < ss.length) : ∃ b o s, a = some ⟨b, o, none⟩ ∧ w.cell? ⟨b, o + k, none⟩ = some (.string s) ∧ s.size ≤ maxLen := by
  rcases h with h | ⟨b, o, h1, h2⟩
  · simp [h] at hk
  · have := h2 k _ (List.getElem?_eq_getElem hk)
    exact ⟨b, o, _, h1, this.1, this.2⟩

set_option maxRecDepth 100000 in
set_option maxHeartbeats 8000000 in
theorem bytes13 (w : World) (r : Rule) (A1 : Option Addr) (C1 : Nat) (A2 : Option Addr) (C2 : Nat) (p1 : Ps w A1 r.pr) (p2 : Ps w A2 r.pa) (n1 : r.name.size ≤ maxLen) (n2 : r.pr.length ≤ maxLen) (n3 : r.pa.length ≤ maxLen) (a : Option Addr) (deny : List Rule) (c : Nat) (a2 : Option Addr) (allow : List Rule) (c2' : Nat) (hR : Rl w a deny) (hR2 : Rl w a2 allow) (hd : deny.length ≤ maxLen) (ha : allow.length ≤ maxLen) (a' : Option Addr) (vs : List ByteArray) (c' : Nat) (hS : Ss w a' vs) (hl : vs.length ≤ maxLen) (m : ByteArray) (hm : m.size ≤ maxLen) :
    Calls Try.prog 13 #[.agg #[.string r.name, .slice A1 r.pr.length C1, .slice A2 r.pa.length C2], .slice a deny.length c, .slice a2 allow.length c2', .slice a' vs.length c', .string m] w fun e w' => IsB e ∧ Below w.heap.size w w' := by
  have HBW : Hid (Below w.heap.size w (w.alloc (.cells #[.string r.name, .slice A1 r.pr.length C1, .slice A2 r.pa.length C2] 45))) := (Below.refl _ _).alloc (Nat.le_refl _) _
  have HC0 : Hid ((w.alloc (.cells #[.string r.name, .slice A1 r.pr.length C1, .slice A2 r.pa.length C2] 45)).heap[w.heap.size]? = some (.cells #[.string r.name, .slice A1 r.pr.length C1, .slice A2 r.pa.length C2] 45)) := at_new _ _
  have HR1 : Hid (Rl (w.alloc (.cells #[.string r.name, .slice A1 r.pr.length C1, .slice A2 r.pa.length C2] 45)) a deny) := hR.below HBW.out
  have HR2 : Hid (Rl (w.alloc (.cells #[.string r.name, .slice A1 r.pr.length C1, .slice A2 r.pa.length C2] 45)) a2 allow) := hR2.below HBW.out
  have HS : Hid (Ss (w.alloc (.cells #[.string r.name, .slice A1 r.pr.length C1, .slice A2 r.pa.length C2] 45)) a' vs) := hS.below HBW.out
  have HPpr : Hid (Ps (w.alloc (.cells #[.string r.name, .slice A1 r.pr.length C1, .slice A2 r.pa.length C2] 45)) A1 r.pr) := p1.below HBW.out
  have HPpa : Hid (Ps (w.alloc (.cells #[.string r.name, .slice A1 r.pr.length C1, .slice A2 r.pa.length C2] 45)) A2 r.pa) := p2.below HBW.out
  unfold maxLen at hd ha hl hm n1 n2 n3
  clear hR hR2 hS p1 p2
  go_enter Try.func13, Try.ntmps13
  go_upto_region 1 with fail
  generalize w.alloc (.cells #[.string r.name, .slice A1 r.pr.length C1, .slice A2 r.pa.length C2] 45) = W0 at *
  generalize w.heap.size = N at HC0 ⊢
  have c1 := at_cell HC0.out 0
  have c2 := at_cell HC0.out 1
  have c3 := at_cell HC0.out 2
  simp only [List.getElem?_toArray, List.getElem?_cons_zero, List.getElem?_cons_succ] at c1 c2 c3
  by_cases hT35 : 1048576 < r.name.size
  · have hT35i : (1048576 : Int) < (r.name.size : Int) := by omega
    go_wp2
    go_ret
    exact ⟨⟨false, rfl⟩, HBW.out⟩
  have hT35i : (r.name.size : Int) ≤ (1048576 : Int) := by omega
  by_cases hT36 : 1048576 < r.pr.length
  · have hT36i : (1048576 : Int) < (r.pr.length : Int) := by omega
    go_wp2
    go_ret
    exact ⟨⟨false, rfl⟩, HBW.out⟩
  have hT36i : (r.pr.length : Int) ≤ (1048576 : Int) := by omega
  by_cases hT37 : 1048576 < r.name.size + r.pr.length
  · have hT37i : (1048576 : Int) < (r.name.size : Int) + (r.pr.length : Int) := by omega
    go_wp2
    go_ret
    exact ⟨⟨false, rfl⟩, HBW.out⟩
  have hT37i : (r.name.size : Int) + (r.pr.length : Int) ≤ (1048576 : Int) := by omega
  go_wp2
  go_loopg [11, 12] (r.pr.length + 1) (fun gk zv i wi => ∃ t y : Nat, t ≤ r.pr.length ∧ gk = r.pr.length + 1 - t ∧ i = .int .i64 t ∧ zv = .int .i64 y ∧ y ≤ 1048576 ∧ wi = W0)
  case atStart => exact ⟨0, r.name.size + r.pr.length, Nat.zero_le _, rfl, rfl, by go_num, by omega, rfl⟩
  case round =>
    obtain ⟨t, y, ht, rfl, rfl, rfl, hy, rfl⟩ := hrel
    by_cases htl : t < r.pr.length
    · obtain ⟨b2, o2, p, hA, hp1, hp2⟩ : ∃ b2 o2 p, A1 = some ⟨b2, o2, none⟩ ∧ wr.cell? ⟨b2, o2 + t * 2 + 1, none⟩ = some (.string p) ∧ p.size ≤ maxLen := at_pat HPpr.out htl
      subst hA
      have htl' : (t : Int) < (r.pr.length : Int) := by omega
      unfold maxLen at hp2
      by_cases hT38 : 1048576 < p.size
      · have hT38i : (1048576 : Int) < (p.size : Int) := by omega
        go_wp2
        go_ret
        exact ⟨⟨false, rfl⟩, HBW.out⟩
      have hT38i : (p.size : Int) ≤ (1048576 : Int) := by omega
      by_cases hT39 : 1048576 < y + p.size
      · have hT39i : (1048576 : Int) < (y : Int) + (p.size : Int) := by omega
        go_wp2
        go_ret
        exact ⟨⟨false, rfl⟩, HBW.out⟩
      have hT39i : (y : Int) + (p.size : Int) ≤ (1048576 : Int) := by omega
      go_wp2
      go_roundg (r.pr.length + 1 - (t + 1))
      case rel => exact ⟨t + 1, y + p.size, by omega, rfl, by go_num, by go_num, by omega, rfl⟩
      case measure => omega
    · have htl' : (r.pr.length : Int) ≤ (t : Int) := by omega
      by_cases hT31 : 1048576 < r.pa.length
      · have hT31i : (1048576 : Int) < (r.pa.length : Int) := by omega
        go_wp2
        go_ret
        exact ⟨⟨false, rfl⟩, HBW.out⟩
      have hT31i : (r.pa.length : Int) ≤ (1048576 : Int) := by omega
      by_cases hT32 : 1048576 < y + r.pa.length
      · have hT32i : (1048576 : Int) < (y : Int) + (r.pa.length : Int) := by omega
        go_wp2
        go_ret
        exact ⟨⟨false, rfl⟩, HBW.out⟩
      have hT32i : (y : Int) + (r.pa.length : Int) ≤ (1048576 : Int) := by omega
      go_wp2
      go_loopg [11, 13] (r.pa.length + 1) (fun gk zv i wi => ∃ t y : Nat, t ≤ r.pa.length ∧ gk = r.pa.length + 1 - t ∧ i = .int .i64 t ∧ zv = .int .i64 y ∧ y ≤ 1048576 ∧ wi = wr)
      case atStart => exact ⟨0, y + r.pa.length, Nat.zero_le _, rfl, rfl, by go_num, by omega, rfl⟩
      case round =>
        obtain ⟨t, y, ht, rfl, rfl, rfl, hy, rfl⟩ := hrel
        by_cases htl : t < r.pa.length
        · obtain ⟨b2, o2, p, hA, hp1, hp2⟩ : ∃ b2 o2 p, A2 = some ⟨b2, o2, none⟩ ∧ wr.cell? ⟨b2, o2 + t * 2 + 1, none⟩ = some (.string p) ∧ p.size ≤ maxLen := at_pat HPpa.out htl
          subst hA
          have htl' : (t : Int) < (r.pa.length : Int) := by omega
          unfold maxLen at hp2
          by_cases hT33 : 1048576 < p.size
          · have hT33i : (1048576 : Int) < (p.size : Int) := by omega
            go_wp2
            go_ret
            exact ⟨⟨false, rfl⟩, HBW.out⟩
          have hT33i : (p.size : Int) ≤ (1048576 : Int) := by omega
          by_cases hT34 : 1048576 < y + p.size
          · have hT34i : (1048576 : Int) < (y : Int) + (p.size : Int) := by omega
            go_wp2
            go_ret
            exact ⟨⟨false, rfl⟩, HBW.out⟩
          have hT34i : (y : Int) + (p.size : Int) ≤ (1048576 : Int) := by omega
          go_wp2
          go_roundg (r.pa.length + 1 - (t + 1))
          case rel => exact ⟨t + 1, y + p.size, by omega, rfl, by go_num, by go_num, by omega, rfl⟩
          case measure => omega
        · have htl' : (r.pa.length : Int) ≤ (t : Int) := by omega
          as_aux_lemma =>
            by_cases hT19 : 1048576 < deny.length
            · have hT19i : (1048576 : Int) < (deny.length : Int) := by omega
              go_wp2
              go_ret
              exact ⟨⟨false, rfl⟩, HBW.out⟩
            have hT19i : (deny.length : Int) ≤ (1048576 : Int) := by omega
            by_cases hT20 : 1048576 < y + deny.length
            · have hT20i : (1048576 : Int) < (y : Int) + (deny.length : Int) := by omega
              go_wp2
              go_ret
              exact ⟨⟨false, rfl⟩, HBW.out⟩
            have hT20i : (y : Int) + (deny.length : Int) ≤ (1048576 : Int) := by omega
            go_wp2
            go_loopg [11, 14] (deny.length + 1) (fun gk zv i wi => ∃ k z : Nat, k ≤ deny.length ∧ gk = deny.length + 1 - k ∧ i = .int .i64 k ∧ zv = .int .i64 z ∧ z ≤ 1048576 ∧ wi = wr)
            case atStart => exact ⟨0, y + deny.length, Nat.zero_le _, rfl, rfl, by go_num, by omega, rfl⟩
            case round =>
              obtain ⟨k, z, hk, rfl, rfl, rfl, hz, rfl⟩ := hrel
              by_cases hkl : k < deny.length
              · obtain ⟨b, o, r, hA, A1, C1, A2, C2, c1, c2, c3, hp1, hp2, n1, n2, n3⟩ : ∃ b o r, a = some ⟨b, o, none⟩ ∧ R1 wr b (o + k * 3) r := at_rule HR1.out hkl
                subst hA
                have HPpr : Hid (Ps wr A1 r.pr) := hp1
                have HPpa : Hid (Ps wr A2 r.pa) := hp2
                have hkl' : (k : Int) < (deny.length : Int) := by omega
                unfold maxLen at n1 n2 n3
                clear hp1 hp2
                by_cases hT25 : 1048576 < r.name.size
                · have hT25i : (1048576 : Int) < (r.name.size : Int) := by omega
                  go_wp2
                  go_ret
                  exact ⟨⟨false, rfl⟩, HBW.out⟩
                have hT25i : (r.name.size : Int) ≤ (1048576 : Int) := by omega
                by_cases hT26 : 1048576 < z + r.name.size
                · have hT26i : (1048576 : Int) < (z : Int) + (r.name.size : Int) := by omega
                  go_wp2
                  go_ret
                  exact ⟨⟨false, rfl⟩, HBW.out⟩
                have hT26i : (z : Int) + (r.name.size : Int) ≤ (1048576 : Int) := by omega
                by_cases hT27 : 1048576 < r.pr.length
                · have hT27i : (1048576 : Int) < (r.pr.length : Int) := by omega
                  go_wp2
                  go_ret
                  exact ⟨⟨false, rfl⟩, HBW.out⟩
                have hT27i : (r.pr.length : Int) ≤ (1048576 : Int) := by omega
                by_cases hT28 : 1048576 < z + r.name.size + r.pr.length
                · have hT28i : (1048576 : Int) < (z : Int) + (r.name.size : Int) + (r.pr.length : Int) := by omega
                  go_wp2
                  go_ret
                  exact ⟨⟨false, rfl⟩, HBW.out⟩
                have hT28i : (z : Int) + (r.name.size : Int) + (r.pr.length : Int) ≤ (1048576 : Int) := by omega
                go_wp2
                go_loopg [11, 15] (r.pr.length + 1) (fun gk zv i wi => ∃ t y : Nat, t ≤ r.pr.length ∧ gk = r.pr.length + 1 - t ∧ i = .int .i64 t ∧ zv = .int .i64 y ∧ y ≤ 1048576 ∧ wi = wr)
                case atStart => exact ⟨0, z + r.name.size + r.pr.length, Nat.zero_le _, rfl, rfl, by go_num, by omega, rfl⟩
                case round =>
                  obtain ⟨t, y, ht, rfl, rfl, rfl, hy, rfl⟩ := hrel
                  by_cases htl : t < r.pr.length
                  · obtain ⟨b2, o2, p, hA, hp1, hp2⟩ : ∃ b2 o2 p, A1 = some ⟨b2, o2, none⟩ ∧ wr.cell? ⟨b2, o2 + t * 2 + 1, none⟩ = some (.string p) ∧ p.size ≤ maxLen := at_pat HPpr.out htl
                    subst hA
                    have htl' : (t : Int) < (r.pr.length : Int) := by omega
                    unfold maxLen at hp2
                    by_cases hT29 : 1048576 < p.size
                    · have hT29i : (1048576 : Int) < (p.size : Int) := by omega
                      go_wp2
                      go_ret
                      exact ⟨⟨false, rfl⟩, HBW.out⟩
                    have hT29i : (p.size : Int) ≤ (1048576 : Int) := by omega
                    by_cases hT30 : 1048576 < y + p.size
                    · have hT30i : (1048576 : Int) < (y : Int) + (p.size : Int) := by omega
                      go_wp2
                      go_ret
                      exact ⟨⟨false, rfl⟩, HBW.out⟩
                    have hT30i : (y : Int) + (p.size : Int) ≤ (1048576 : Int) := by omega
                    go_wp2
                    go_roundg (r.pr.length + 1 - (t + 1))
                    case rel => exact ⟨t + 1, y + p.size, by omega, rfl, by go_num, by go_num, by omega, rfl⟩
                    case measure => omega
                  · have htl' : (r.pr.length : Int) ≤ (t : Int) := by omega
                    by_cases hT21 : 1048576 < r.pa.length
                    · have hT21i : (1048576 : Int) < (r.pa.length : Int) := by omega
                      go_wp2
                      go_ret
                      exact ⟨⟨false, rfl⟩, HBW.out⟩
                    have hT21i : (r.pa.length : Int) ≤ (1048576 : Int) := by omega
                    by_cases hT22 : 1048576 < y + r.pa.length
                    · have hT22i : (1048576 : Int) < (y : Int) + (r.pa.length : Int) := by omega
                      go_wp2
                      go_ret
                      exact ⟨⟨false, rfl⟩, HBW.out⟩
                    have hT22i : (y : Int) + (r.pa.length : Int) ≤ (1048576 : Int) := by omega
                    go_wp2
                    go_loopg [11, 16] (r.pa.length + 1) (fun gk zv i wi => ∃ t y : Nat, t ≤ r.pa.length ∧ gk = r.pa.length + 1 - t ∧ i = .int .i64 t ∧ zv = .int .i64 y ∧ y ≤ 1048576 ∧ wi = wr)
                    case atStart => exact ⟨0, y + r.pa.length, Nat.zero_le _, rfl, rfl, by go_num, by omega, rfl⟩
                    case round =>
                      obtain ⟨t, y, ht, rfl, rfl, rfl, hy, rfl⟩ := hrel
                      by_cases htl : t < r.pa.length
                      · obtain ⟨b2, o2, p, hA, hp1, hp2⟩ : ∃ b2 o2 p, A2 = some ⟨b2, o2, none⟩ ∧ wr.cell? ⟨b2, o2 + t * 2 + 1, none⟩ = some (.string p) ∧ p.size ≤ maxLen := at_pat HPpa.out htl
                        subst hA
                        have htl' : (t : Int) < (r.pa.length : Int) := by omega
                        unfold maxLen at hp2
                        by_cases hT23 : 1048576 < p.size
                        · have hT23i : (1048576 : Int) < (p.size : Int) := by omega
                          go_wp2
                          go_ret
                          exact ⟨⟨false, rfl⟩, HBW.out⟩
                        have hT23i : (p.size : Int) ≤ (1048576 : Int) := by omega
                        by_cases hT24 : 1048576 < y + p.size
                        · have hT24i : (1048576 : Int) < (y : Int) + (p.size : Int) := by omega
                          go_wp2
                          go_ret
                          exact ⟨⟨false, rfl⟩, HBW.out⟩
                        have hT24i : (y : Int) + (p.size : Int) ≤ (1048576 : Int) := by omega
                        go_wp2
                        go_roundg (r.pa.length + 1 - (t + 1))
                        case rel => exact ⟨t + 1, y + p.size, by omega, rfl, by go_num, by go_num, by omega, rfl⟩
                        case measure => omega
                      · have htl' : (r.pa.length : Int) ≤ (t : Int) := by omega
                        go_wp2
                        go_roundg (deny.length + 1 - (k + 1))
                        case rel => exact ⟨k + 1, y, by omega, rfl, by go_num, rfl, by omega, rfl⟩
                        case measure => omega
              · have hkl' : (deny.length : Int) ≤ (k : Int) := by omega
                as_aux_lemma =>
                  by_cases hT7 : 1048576 < allow.length
                  · have hT7i : (1048576 : Int) < (allow.length : Int) := by omega
                    go_wp2
                    go_ret
                    exact ⟨⟨false, rfl⟩, HBW.out⟩
                  have hT7i : (allow.length : Int) ≤ (1048576 : Int) := by omega
                  by_cases hT8 : 1048576 < z + allow.length
                  · have hT8i : (1048576 : Int) < (z : Int) + (allow.length : Int) := by omega
                    go_wp2
                    go_ret
                    exact ⟨⟨false, rfl⟩, HBW.out⟩
                  have hT8i : (z : Int) + (allow.length : Int) ≤ (1048576 : Int) := by omega
                  go_wp2
                  go_loopg [11, 17] (allow.length + 1) (fun gk zv i wi => ∃ k z : Nat, k ≤ allow.length ∧ gk = allow.length + 1 - k ∧ i = .int .i64 k ∧ zv = .int .i64 z ∧ z ≤ 1048576 ∧ wi = wr)
                  case atStart => exact ⟨0, z + allow.length, Nat.zero_le _, rfl, rfl, by go_num, by omega, rfl⟩
                  case round =>
                    obtain ⟨k, z, hk, rfl, rfl, rfl, hz, rfl⟩ := hrel
                    by_cases hkl : k < allow.length
                    · obtain ⟨b, o, r, hA, A1, C1, A2, C2, c1, c2, c3, hp1, hp2, n1, n2, n3⟩ : ∃ b o r, a2 = some ⟨b, o, none⟩ ∧ R1 wr b (o + k * 3) r := at_rule HR2.out hkl
                      subst hA
                      have HPpr : Hid (Ps wr A1 r.pr) := hp1
                      have HPpa : Hid (Ps wr A2 r.pa) := hp2
                      have hkl' : (k : Int) < (allow.length : Int) := by omega
                      unfold maxLen at n1 n2 n3
                      clear hp1 hp2
                      by_cases hT13 : 1048576 < r.name.size
                      · have hT13i : (1048576 : Int) < (r.name.size : Int) := by omega
                        go_wp2
                        go_ret
                        exact ⟨⟨false, rfl⟩, HBW.out⟩
                      have hT13i : (r.name.size : Int) ≤ (1048576 : Int) := by omega
                      by_cases hT14 : 1048576 < z + r.name.size
                      · have hT14i : (1048576 : Int) < (z : Int) + (r.name.size : Int) := by omega
                        go_wp2
                        go_ret
                        exact ⟨⟨false, rfl⟩, HBW.out⟩
                      have hT14i : (z : Int) + (r.name.size : Int) ≤ (1048576 : Int) := by omega
                      by_cases hT15 : 1048576 < r.pr.length
                      · have hT15i : (1048576 : Int) < (r.pr.length : Int) := by omega
                        go_wp2
                        go_ret
                        exact ⟨⟨false, rfl⟩, HBW.out⟩
                      have hT15i : (r.pr.length : Int) ≤ (1048576 : Int) := by omega
                      by_cases hT16 : 1048576 < z + r.name.size + r.pr.length
                      · have hT16i : (1048576 : Int) < (z : Int) + (r.name.size : Int) + (r.pr.length : Int) := by omega
                        go_wp2
                        go_ret
                        exact ⟨⟨false, rfl⟩, HBW.out⟩
                      have hT16i : (z : Int) + (r.name.size : Int) + (r.pr.length : Int) ≤ (1048576 : Int) := by omega
                      go_wp2
                      go_loopg [11, 18] (r.pr.length + 1) (fun gk zv i wi => ∃ t y : Nat, t ≤ r.pr.length ∧ gk = r.pr.length + 1 - t ∧ i = .int .i64 t ∧ zv = .int .i64 y ∧ y ≤ 1048576 ∧ wi = wr)
                      case atStart => exact ⟨0, z + r.name.size + r.pr.length, Nat.zero_le _, rfl, rfl, by go_num, by omega, rfl⟩
                      case round =>
                        obtain ⟨t, y, ht, rfl, rfl, rfl, hy, rfl⟩ := hrel
                        by_cases htl : t < r.pr.length
                        · obtain ⟨b2, o2, p, hA, hp1, hp2⟩ : ∃ b2 o2 p, A1 = some ⟨b2, o2, none⟩ ∧ wr.cell? ⟨b2, o2 + t * 2 + 1, none⟩ = some (.string p) ∧ p.size ≤ maxLen := at_pat HPpr.out htl
                          subst hA
                          have htl' : (t : Int) < (r.pr.length : Int) := by omega
                          unfold maxLen at hp2
                          by_cases hT17 : 1048576 < p.size
                          · have hT17i : (1048576 : Int) < (p.size : Int) := by omega
                            go_wp2
                            go_ret
                            exact ⟨⟨false, rfl⟩, HBW.out⟩
                          have hT17i : (p.size : Int) ≤ (1048576 : Int) := by omega
                          by_cases hT18 : 1048576 < y + p.size
                          · have hT18i : (1048576 : Int) < (y : Int) + (p.size : Int) := by omega
                            go_wp2
                            go_ret
                            exact ⟨⟨false, rfl⟩, HBW.out⟩
                          have hT18i : (y : Int) + (p.size : Int) ≤ (1048576 : Int) := by omega
                          go_wp2
                          go_roundg (r.pr.length + 1 - (t + 1))
                          case rel => exact ⟨t + 1, y + p.size, by omega, rfl, by go_num, by go_num, by omega, rfl⟩
                          case measure => omega
                        · have htl' : (r.pr.length : Int) ≤ (t : Int) := by omega
                          by_cases hT9 : 1048576 < r.pa.length
                          · have hT9i : (1048576 : Int) < (r.pa.length : Int) := by omega
                            go_wp2
                            go_ret
                            exact ⟨⟨false, rfl⟩, HBW.out⟩
                          have hT9i : (r.pa.length : Int) ≤ (1048576 : Int) := by omega
                          by_cases hT10 : 1048576 < y + r.pa.length
                          · have hT10i : (1048576 : Int) < (y : Int) + (r.pa.length : Int) := by omega
                            go_wp2
                            go_ret
                            exact ⟨⟨false, rfl⟩, HBW.out⟩
                          have hT10i : (y : Int) + (r.pa.length : Int) ≤ (1048576 : Int) := by omega
                          go_wp2
                          go_loopg [11, 19] (r.pa.length + 1) (fun gk zv i wi => ∃ t y : Nat, t ≤ r.pa.length ∧ gk = r.pa.length + 1 - t ∧ i = .int .i64 t ∧ zv = .int .i64 y ∧ y ≤ 1048576 ∧ wi = wr)
                          case atStart => exact ⟨0, y + r.pa.length, Nat.zero_le _, rfl, rfl, by go_num, by omega, rfl⟩
                          case round =>
                            obtain ⟨t, y, ht, rfl, rfl, rfl, hy, rfl⟩ := hrel
                            by_cases htl : t < r.pa.length
                            · obtain ⟨b2, o2, p, hA, hp1, hp2⟩ : ∃ b2 o2 p, A2 = some ⟨b2, o2, none⟩ ∧ wr.cell? ⟨b2, o2 + t * 2 + 1, none⟩ = some (.string p) ∧ p.size ≤ maxLen := at_pat HPpa.out htl
                              subst hA
                              have htl' : (t : Int) < (r.pa.length : Int) := by omega
                              unfold maxLen at hp2
                              by_cases hT11 : 1048576 < p.size
                              · have hT11i : (1048576 : Int) < (p.size : Int) := by omega
                                go_wp2
                                go_ret
                                exact ⟨⟨false, rfl⟩, HBW.out⟩
                              have hT11i : (p.size : Int) ≤ (1048576 : Int) := by omega
                              by_cases hT12 : 1048576 < y + p.size
                              · have hT12i : (1048576 : Int) < (y : Int) + (p.size : Int) := by omega
                                go_wp2
                                go_ret
                                exact ⟨⟨false, rfl⟩, HBW.out⟩
                              have hT12i : (y : Int) + (p.size : Int) ≤ (1048576 : Int) := by omega
                              go_wp2
                              go_roundg (r.pa.length + 1 - (t + 1))
                              case rel => exact ⟨t + 1, y + p.size, by omega, rfl, by go_num, by go_num, by omega, rfl⟩
                              case measure => omega
                            · have htl' : (r.pa.length : Int) ≤ (t : Int) := by omega
                              go_wp2
                              go_roundg (allow.length + 1 - (k + 1))
                              case rel => exact ⟨k + 1, y, by omega, rfl, by go_num, rfl, by omega, rfl⟩
                              case measure => omega
                    · have hkl' : (allow.length : Int) ≤ (k : Int) := by omega
                      as_aux_lemma =>
                        by_cases hT1 : 1048576 < vs.length
                        · have hT1i : (1048576 : Int) < (vs.length : Int) := by omega
                          go_wp2
                          go_ret
                          exact ⟨⟨false, rfl⟩, HBW.out⟩
                        have hT1i : (vs.length : Int) ≤ (1048576 : Int) := by omega
                        by_cases hT2 : 1048576 < z + vs.length
                        · have hT2i : (1048576 : Int) < (z : Int) + (vs.length : Int) := by omega
                          go_wp2
                          go_ret
                          exact ⟨⟨false, rfl⟩, HBW.out⟩
                        have hT2i : (z : Int) + (vs.length : Int) ≤ (1048576 : Int) := by omega
                        go_wp2
                        go_loopg [11, 20] (vs.length + 1) (fun gk zv i wi => ∃ k q : Nat, k ≤ vs.length ∧ gk = vs.length + 1 - k ∧ i = .int .i64 k ∧ zv = .int .i64 q ∧ q ≤ 1048576 ∧ wi = wr)
                        case atStart => exact ⟨0, z + vs.length, Nat.zero_le _, rfl, rfl, by go_num, by omega, rfl⟩
                        case round =>
                          obtain ⟨k, q, hk, rfl, rfl, rfl, hq, rfl⟩ := hrel
                          by_cases hkl : k < vs.length
                          · obtain ⟨b, o, s, hA, hc, hs⟩ : ∃ b o s, a' = some ⟨b, o, none⟩ ∧ wr.cell? ⟨b, o + k, none⟩ = some (.string s) ∧ s.size ≤ maxLen := at_str HS.out hkl
                            subst hA
                            have hkl' : (k : Int) < (vs.length : Int) := by omega
                            unfold maxLen at hs
                            by_cases hT3 : 1048576 < s.size
                            · have hT3i : (1048576 : Int) < (s.size : Int) := by omega
                              go_wp2
                              go_ret
                              exact ⟨⟨false, rfl⟩, HBW.out⟩
                            have hT3i : (s.size : Int) ≤ (1048576 : Int) := by omega
                            by_cases hT4 : 1048576 < q + s.size
                            · have hT4i : (1048576 : Int) < (q : Int) + (s.size : Int) := by omega
                              go_wp2
                              go_ret
                              exact ⟨⟨false, rfl⟩, HBW.out⟩
                            have hT4i : (q : Int) + (s.size : Int) ≤ (1048576 : Int) := by omega
                            go_wp2
                            go_roundg (vs.length + 1 - (k + 1))
                            case rel => exact ⟨k + 1, q + s.size, by omega, rfl, by go_num, by go_num, by omega, rfl⟩
                            case measure => omega
                          · have hkl' : (vs.length : Int) ≤ (k : Int) := by omega
                            by_cases hT5 : 1048576 < m.size
                            · have hT5i : (1048576 : Int) < (m.size : Int) := by omega
                              go_wp2
                              go_ret
                              exact ⟨⟨false, rfl⟩, HBW.out⟩
                            have hT5i : (m.size : Int) ≤ (1048576 : Int) := by omega
                            by_cases hT6 : 1048576 < q + m.size
                            · have hT6i : (1048576 : Int) < (q : Int) + (m.size : Int) := by omega
                              go_wp2
                              go_ret
                              exact ⟨⟨false, rfl⟩, HBW.out⟩
                            have hT6i : (q : Int) + (m.size : Int) ≤ (1048576 : Int) := by omega
                            go_wp2
                            go_ret
                            exact ⟨⟨true, rfl⟩, HBW.out⟩
end Go.Proofs.Qxb6627205a
