import Derived.Test.Qxb6627205aPat
import Derived.Deep.RegionHeld3
import Derived.Deep.DrawnRows
namespace Go.Proofs.Qxb6627205a
open Go.RowKit

attribute [local go_sem ↓] Go.wp_at_zero Go.wp_at_succ

theorem any_false_at {α : Type} (l : List α) (f : α → Bool) (h : ∀ (t : Nat) x, t < l.length → l[t]? = some x → f x = false) : l.any f = false := by
  rw [List.any_eq_false]
  intro x hx
  obtain ⟨t, ht⟩ := List.getElem?_of_mem hx
  simp [h t x (List.getElem?_eq_some_iff.1 ht).1 ht]
theorem any_true_at {α : Type} (l : List α) (f : α → Bool) {t : Nat} {x : α} (h : l[t]? = some x) (hf : f x = true) : l.any f = true :=
  List.any_eq_true.2 ⟨x, List.mem_of_getElem? h, hf⟩
theorem someOK_nil (vs : List ByteArray) : someOK [] vs = true := rfl
theorem someOK_true {ps : List Pat} {vs : List ByteArray} {i j : Nat} {p : Pat} {v : ByteArray} (hp : ps[i]? = some p) (hv : vs[j]? = some v) (h : patOK p v = true) : someOK ps vs = true := by
  unfold someOK
  rw [any_true_at ps _ hp (any_true_at vs _ hv h)]; simp
theorem someOK_false {ps : List Pat} {vs : List ByteArray} (h0 : 0 < ps.length) (h : ∀ (t : Nat) p, t < ps.length → ps[t]? = some p → vs.any (patOK p) = false) : someOK ps vs = false := by
  unfold someOK
  rw [any_false_at ps _ h]
  cases ps with
  | nil => simp at h0
  | cons _ _ => rfl

set_option maxHeartbeats 800000 in
theorem some24 (w : World) (a a' : Option Addr) (ps : List Pat) (vs : List ByteArray) (c c' : Nat) (hl : ps.length ≤ maxLen) (hl' : vs.length ≤ maxLen) (hP : Ps w a ps) (hS : Ss w a' vs) :
    Calls Try.prog 24 #[.slice a ps.length c, .slice a' vs.length c'] w fun e w' => e = .returned (.bool (someOK ps vs)) ∧ Below w.heap.size w w' := by
  unfold maxLen at hl hl'
  by_cases h0 : ps.length = 0
  · have hnil : ps = [] := List.eq_nil_of_length_eq_zero h0
    subst hnil
    simp only [List.length_nil]
    go_enter Try.func24, Try.ntmps24
    go_wp2
    go_ret
    exact ⟨ret_bool (someOK_nil vs).symm, Below.refl _ _⟩
  have h0' : ((ps.length : Int) == 0) = false := by simp; exact fun h => h0 (by simp [h])
  have h0p : 0 < ps.length := by omega
  clear h0
  go_enter Try.func24, Try.ntmps24
  go_wp2
  go_loopg [5] (ps.length + 1) (fun gk i wr => ∃ k : Nat, k ≤ ps.length ∧ gk = ps.length + 1 - k ∧ i = .int .i64 k ∧ Hid (∀ (t : Nat) p, t < k → ps[t]? = some p → vs.any (patOK p) = false) ∧ Below w.heap.size w wr)
  case atStart => exact ⟨0, Nat.zero_le _, rfl, rfl, fun t p ht => absurd ht (Nat.not_lt_zero _), Below.refl _ _⟩
  case round =>
    obtain ⟨k, hk, rfl, rfl, HN, hb⟩ := hrel
    by_cases hlt : k < ps.length
    · rcases hP with h | ⟨b, o, rfl, hP⟩
      · simp [h] at hlt
      obtain ⟨p, hp⟩ : ∃ p, ps[k]? = some p := ⟨ps[k], List.getElem?_eq_getElem hlt⟩
      have hP1 := hP k p hp
      have HP : Hid (P1 w b (o + k * 2) p) := hP1
      have HPk : Hid (ps[k]? = some p) := hp
      have hkl : (k : Int) < (ps.length : Int) := by omega
      clear hP hp hP1
      go_wp2_with fail
      go_loopg [6] (vs.length + 1) (fun gk i wr => ∃ j : Nat, j ≤ vs.length ∧ gk = vs.length + 1 - j ∧ i = .int .i64 j ∧ Hid (∀ (t : Nat) v, t < j → vs[t]? = some v → patOK p v = false) ∧ Below w.heap.size w wr)
      case atStart => exact ⟨0, Nat.zero_le _, rfl, rfl, fun t v ht => absurd ht (Nat.not_lt_zero _), hb⟩
      case round =>
        clear hb
        obtain ⟨j, hj, rfl, rfl, HM, hb⟩ := hrel
        by_cases hjl : j < vs.length
        · rcases hS with h | ⟨b2, o2, rfl, hS⟩
          · simp [h] at hjl
          obtain ⟨v, hv⟩ : ∃ v, vs[j]? = some v := ⟨vs[j], List.getElem?_eq_getElem hjl⟩
          obtain ⟨s1, s2⟩ := hS j v hv
          have HV : Hid (vs[j]? = some v) := hv
          have hjl' : (j : Int) < (vs.length : Int) := by omega
          obtain ⟨q1, q2, _, _, q5⟩ := HP.out.below hb
          have q3 : wr.cell? ⟨b2, o2 + j, none⟩ = some (.string v) := (hb.cell (block_lt_of_cell s1)).trans s1
          clear hS hv s1
          have hsz := hb.size
          cases hres : patOK p v with
          | true =>
            have HR : Hid (patOK p v = true) := hres
            clear hres
            go_wp2_with fail
            go_region_held3 (fun w' => w'.cell? ⟨b, o + k * 2, none⟩ = some (.int .u8 p.form) ∧ w'.cell? ⟨b, o + k * 2 + 1, none⟩ = some (.string p.text) ∧ w'.cell? ⟨b2, o2 + j, none⟩ = some (.string v)) (first | exact ⟨q1, q2, q3⟩ | exact ⟨(hb1.cell (block_lt_of_cell q1)).trans q1, (hb1.cell (block_lt_of_cell q2)).trans q2, (hb1.cell (block_lt_of_cell q3)).trans q3⟩)
              (first | (go_at_call 33; refine (pat33 _ p v q5 s2).mono ?_; rw [HR.out]; rintro e w1 ⟨rfl, hb1⟩))
            go_wp2
            go_ret
            exact ⟨ret_bool (someOK_true HPk.out HV.out HR.out).symm, hb.drew.trans (Below.mono (w := wr.drew) hb1 hb.size)⟩
          | false =>
            have HR : Hid (patOK p v = false) := hres
            clear hres
            go_wp2_with fail
            go_region_held3 (fun w' => w'.cell? ⟨b, o + k * 2, none⟩ = some (.int .u8 p.form) ∧ w'.cell? ⟨b, o + k * 2 + 1, none⟩ = some (.string p.text) ∧ w'.cell? ⟨b2, o2 + j, none⟩ = some (.string v)) (first | exact ⟨q1, q2, q3⟩ | exact ⟨(hb1.cell (block_lt_of_cell q1)).trans q1, (hb1.cell (block_lt_of_cell q2)).trans q2, (hb1.cell (block_lt_of_cell q3)).trans q3⟩)
              (first | (go_at_call 33; refine (pat33 _ p v q5 s2).mono ?_; rw [HR.out]; rintro e w1 ⟨rfl, hb1⟩))
            go_wp2
            go_roundg (vs.length + 1 - (j + 1))
            case rel => exact ⟨j + 1, by omega, rfl, by go_num, fun t u ht hu => by
                          by_cases e1 : t = j
                          · subst e1; rw [HV.out] at hu; cases hu; exact HR.out
                          · exact HM.out t u (by omega) hu, hb.drew.trans (Below.mono (w := wr.drew) hb1 hb.size)⟩
            case measure => omega
        · go_wp2
          go_roundg (ps.length + 1 - (k + 1))
          case rel => exact ⟨k + 1, by omega, rfl, by go_num, fun t q ht hq => by
                        by_cases e1 : t = k
                        · subst e1; rw [HPk.out] at hq; cases hq; exact any_false_at vs _ fun t v h1 h2 => HM.out t v (by omega) h2
                        · exact HN.out t q (by omega) hq, hb⟩
          case measure => omega
    · go_wp2
      go_ret
      exact ⟨ret_bool (someOK_false h0p fun t p h1 h2 => HN.out t p (by omega) h2).symm, hb⟩

set_option maxHeartbeats 800000 in
theorem one25 (w : World) (a : Option Addr) (ps : List Pat) (v : ByteArray) (c : Nat) (hl : ps.length ≤ maxLen) (hv : v.size ≤ maxLen) (hP : Ps w a ps) :
    Calls Try.prog 25 #[.slice a ps.length c, .string v] w fun e w' => e = .returned (.bool (someOK ps [v])) ∧ Below w.heap.size w w' := by
  unfold maxLen at hl
  by_cases h0 : ps.length = 0
  · have hnil : ps = [] := List.eq_nil_of_length_eq_zero h0
    subst hnil
    simp only [List.length_nil]
    go_enter Try.func25, Try.ntmps25
    go_wp2
    go_ret
    exact ⟨ret_bool (someOK_nil [v]).symm, Below.refl _ _⟩
  have h0' : ((ps.length : Int) == 0) = false := by simp; exact fun h => h0 (by simp [h])
  have h0p : 0 < ps.length := by omega
  clear h0
  go_enter Try.func25, Try.ntmps25
  go_wp2
  go_loopg [5] (ps.length + 1) (fun gk i wr => ∃ k : Nat, k ≤ ps.length ∧ gk = ps.length + 1 - k ∧ i = .int .i64 k ∧ Hid (∀ (t : Nat) p, t < k → ps[t]? = some p → patOK p v = false) ∧ Below w.heap.size w wr)
  case atStart => exact ⟨0, Nat.zero_le _, rfl, rfl, fun t p ht => absurd ht (Nat.not_lt_zero _), Below.refl _ _⟩
  case round =>
    obtain ⟨k, hk, rfl, rfl, HN, hb⟩ := hrel
    by_cases hlt : k < ps.length
    · rcases hP with h | ⟨b, o, rfl, hP⟩
      · simp [h] at hlt
      obtain ⟨p, hp⟩ : ∃ p, ps[k]? = some p := ⟨ps[k], List.getElem?_eq_getElem hlt⟩
      obtain ⟨q1, q2, _, _, q5⟩ := (hP k p hp).below hb
      have HPk : Hid (ps[k]? = some p) := hp
      have hkl : (k : Int) < (ps.length : Int) := by omega
      clear hP hp
      cases hres : patOK p v with
      | true =>
        have HR : Hid (patOK p v = true) := hres
        clear hres
        go_wp2_with fail
        refine (pat33 _ p v q5 hv).mono ?_
        rw [HR.out]
        rintro e w1 ⟨rfl, hb1⟩
        go_wp2
        go_ret
        exact ⟨ret_bool (someOK_true (vs := [v]) (j := 0) HPk.out rfl HR.out).symm, hb.trans (hb1.mono hb.size)⟩
      | false =>
        have HR : Hid (patOK p v = false) := hres
        clear hres
        go_wp2_with fail
        refine (pat33 _ p v q5 hv).mono ?_
        rw [HR.out]
        rintro e w1 ⟨rfl, hb1⟩
        have hb2 := hb.trans (hb1.mono hb.size)
        clear hb1 q1 q2
        go_wp2
        go_roundg (ps.length + 1 - (k + 1))
        case rel => exact ⟨k + 1, by omega, rfl, by go_num, fun t q ht hq => by
                        by_cases e1 : t = k
                        · subst e1; rw [HPk.out] at hq; cases hq; exact HR.out
                        · exact HN.out t q (by omega) hq, hb2⟩
        case measure => omega
    · go_wp2
      go_ret
      exact ⟨ret_bool (someOK_false h0p fun t p h1 h2 => by simp [HN.out t p (by omega) h2]).symm, hb⟩

set_option maxHeartbeats 800000 in
theorem rule16 (w : World) (r : Rule) (A1 A2 a' : Option Addr) (C1 C2 c' : Nat) (vs : List ByteArray) (m : ByteArray) (h1 : Ps w A1 r.pr) (h2 : Ps w A2 r.pa) (hl1 : r.pr.length ≤ maxLen) (hl2 : r.pa.length ≤ maxLen) (hl' : vs.length ≤ maxLen) (hm : m.size ≤ maxLen) (hS : Ss w a' vs) :
    Calls Try.prog 16 #[.agg #[.string r.name, .slice A1 r.pr.length C1, .slice A2 r.pa.length C2], .slice a' vs.length c', .string m] w fun e w' => e = .returned (.bool (ruleOK vs m r)) ∧ Below w.heap.size w w' := by
  have HB : Hid (Below w.heap.size w (w.alloc (.cells #[.string r.name, .slice A1 r.pr.length C1, .slice A2 r.pa.length C2] 45))) := (Below.refl _ _).alloc (Nat.le_refl _) _
  have hcell : (w.alloc (.cells #[.string r.name, .slice A1 r.pr.length C1, .slice A2 r.pa.length C2] 45)).cell? ⟨w.heap.size, 2, none⟩ = some (.slice A2 r.pa.length C2) := by rw [World.cell?_alloc_new]; rfl
  have HP1 : Hid (Ps (w.alloc (.cells #[.string r.name, .slice A1 r.pr.length C1, .slice A2 r.pa.length C2] 45)) A1 r.pr) := h1.below HB.out
  have HP2 : Hid (Ps (w.alloc (.cells #[.string r.name, .slice A1 r.pr.length C1, .slice A2 r.pa.length C2] 45)) A2 r.pa) := h2.below HB.out
  have HSs : Hid (Ss (w.alloc (.cells #[.string r.name, .slice A1 r.pr.length C1, .slice A2 r.pa.length C2] 45)) a' vs) := hS.below HB.out
  have HC : Hid ((w.alloc (.cells #[.string r.name, .slice A1 r.pr.length C1, .slice A2 r.pa.length C2] 45)).cell? ⟨w.heap.size, 2, none⟩ = some (.slice A2 r.pa.length C2)) := hcell
  clear h1 h2 hS hcell
  cases hres : someOK r.pr vs with
  | false =>
    have HR : Hid (someOK r.pr vs = false) := hres
    clear hres
    go_enter Try.func16, Try.ntmps16
    go_wp2_with fail
    refine (some24 _ A1 a' r.pr vs C1 c' hl1 hl' HP1.out HSs.out).mono ?_
    rw [HR.out]
    rintro e w1 ⟨rfl, hb1⟩
    go_wp2
    go_ret
    exact ⟨ret_bool (by simp [ruleOK, HR.out]), HB.out.trans (hb1.mono HB.out.size)⟩
  | true =>
    have HR : Hid (someOK r.pr vs = true) := hres
    clear hres
    go_enter Try.func16, Try.ntmps16
    go_wp2_with fail
    refine (some24 _ A1 a' r.pr vs C1 c' hl1 hl' HP1.out HSs.out).mono ?_
    rw [HR.out]
    rintro e w1 ⟨rfl, hb1⟩
    have hc1 : w1.cell? ⟨w.heap.size, 2, none⟩ = some (.slice A2 r.pa.length C2) := (hb1.cell (block_lt_of_cell HC.out)).trans HC.out
    have HP2' : Hid (Ps w1 A2 r.pa) := HP2.out.below hb1
    go_wp2_with fail
    refine (one25 _ A2 r.pa m C2 hl2 hm HP2'.out).mono ?_
    rintro e w2 ⟨rfl, hb2⟩
    go_wp2
    go_ret
    exact ⟨ret_bool (by simp [ruleOK, HR.out]), HB.out.trans ((hb1.mono HB.out.size).trans (hb2.mono (Nat.le_trans HB.out.size hb1.size)))⟩

/-- The place of the first rule that matches, or -1. -/
def firstI (rs : List Rule) (vs : List ByteArray) (m : ByteArray) : Int :=
  match rs.findIdx? (ruleOK vs m) with
  | some i => i
  | none => -1
theorem firstI_at {rs : List Rule} {vs : List ByteArray} {m : ByteArray} {k : Nat} {r : Rule} (hr : rs[k]? = some r) (h : ruleOK vs m r = true) (hn : ∀ (t : Nat) q, t < k → rs[t]? = some q → ruleOK vs m q = false) : firstI rs vs m = k := by
  have hlt := (List.getElem?_eq_some_iff.1 hr).1
  have : rs.findIdx? (ruleOK vs m) = some k := by
    rw [List.findIdx?_eq_some_iff_getElem]
    refine ⟨hlt, ?_, fun j hj => ?_⟩
    · rw [(List.getElem?_eq_some_iff.1 hr).2]; exact h
    · simp [hn j rs[j] hj (List.getElem?_eq_getElem _)]
  simp [firstI, this]
theorem firstI_none {rs : List Rule} {vs : List ByteArray} {m : ByteArray} (hn : ∀ (t : Nat) q, t < rs.length → rs[t]? = some q → ruleOK vs m q = false) : firstI rs vs m = -1 := by
  have : rs.findIdx? (ruleOK vs m) = none := by
    rw [List.findIdx?_eq_none_iff]
    intro x hx
    obtain ⟨t, ht⟩ := List.getElem?_of_mem hx
    simp [hn t x (List.getElem?_eq_some_iff.1 ht).1 ht]
  simp [firstI, this]

set_option maxHeartbeats 800000 in
theorem first22 (w : World) (a a' : Option Addr) (c c' : Nat) (rs : List Rule) (vs : List ByteArray) (m : ByteArray) (hl : rs.length ≤ maxLen) (hl' : vs.length ≤ maxLen) (hm : m.size ≤ maxLen) (hP : Rl w a rs) (hS : Ss w a' vs) :
    Calls Try.prog 22 #[.slice a rs.length c, .slice a' vs.length c', .string m] w fun e w' => e = .returned (.int .i64 (firstI rs vs m)) ∧ Below w.heap.size w w' := by
  unfold maxLen at hl
  go_enter Try.func22, Try.ntmps22
  go_wp2
  go_loopg [7] (rs.length + 1) (fun gk i wr => ∃ k : Nat, k ≤ rs.length ∧ gk = rs.length + 1 - k ∧ i = .int .i64 k ∧ Hid (∀ (t : Nat) q, t < k → rs[t]? = some q → ruleOK vs m q = false) ∧ Below w.heap.size w wr)
  case atStart => exact ⟨0, Nat.zero_le _, rfl, rfl, fun t p ht => absurd ht (Nat.not_lt_zero _), Below.refl _ _⟩
  case round =>
    obtain ⟨k, hk, rfl, rfl, HN, hb⟩ := hrel
    by_cases hlt : k < rs.length
    · rcases hP with h | ⟨b, o, rfl, hP⟩
      · simp [h] at hlt
      obtain ⟨r, hr⟩ : ∃ p, rs[k]? = some p := ⟨rs[k], List.getElem?_eq_getElem hlt⟩
      obtain ⟨A1, C1, A2, C2, c1, c2, c3, p1, p2, n1, n2, n3⟩ := (hP k r hr).below hb
      have HP : Hid (Ps wr A1 r.pr ∧ Ps wr A2 r.pa) := ⟨p1, p2⟩
      have HSs : Hid (Ss wr a' vs) := hS.below hb
      have HRk : Hid (rs[k]? = some r) := hr
      have hkl : (k : Int) < (rs.length : Int) := by omega
      clear hP hr p1 p2 hS
      cases hres : ruleOK vs m r with
      | true =>
        have HR : Hid (ruleOK vs m r = true) := hres
        clear hres
        go_wp2_with fail
        refine (rule16 _ r A1 A2 a' C1 C2 c' vs m HP.out.1 HP.out.2 n2 n3 hl' hm HSs.out).mono ?_
        rw [HR.out]
        rintro e w1 ⟨rfl, hb1⟩
        clear c1 c2 c3
        go_wp2
        go_ret
        exact ⟨ret_int (firstI_at HRk.out HR.out HN.out).symm, hb.trans (hb1.mono hb.size)⟩
      | false =>
        have HR : Hid (ruleOK vs m r = false) := hres
        clear hres
        go_wp2_with fail
        refine (rule16 _ r A1 A2 a' C1 C2 c' vs m HP.out.1 HP.out.2 n2 n3 hl' hm HSs.out).mono ?_
        rw [HR.out]
        rintro e w1 ⟨rfl, hb1⟩
        have hb2 := hb.trans (hb1.mono hb.size)
        clear c1 c2 c3 hb1
        go_wp2
        go_roundg (rs.length + 1 - (k + 1))
        case rel => exact ⟨k + 1, by omega, rfl, by go_num, fun t q ht hq => by
                        by_cases e1 : t = k
                        · subst e1; rw [HRk.out] at hq; cases hq; exact HR.out
                        · exact HN.out t q (by omega) hq, hb2⟩
        case measure => omega
    · go_wp2
      go_ret
      exact ⟨ret_int (firstI_none fun t q h1 h2 => HN.out t q (by omega) h2).symm, hb⟩
end Go.Proofs.Qxb6627205a
