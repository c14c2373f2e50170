import Derived.Test.Qxb6626922aProg
import Derived.WalkKit
import Derived.ProofKit
import Derived.Maps.OwnSet
import Derived.Maps.AppendAt
import Derived.Deep.MidRow
import Derived.Deep.AppendLies
namespace Go.Proofs.Qxb6626922a
open Go.RowKit Go.Maps

theorem Try.laidOut : laidOutB Try.prog = true := by kernel_rfl
theorem Try.row26 : 26 < Try.prog.types.size := by
  have h : decide (26 < Try.prog.types.size) = true := by kernel_rfl
  exact of_decide_eq_true h
theorem Try.wide : (match Try.prog.underlying 26 with | some (.array _ _) | some (.struct _) => true | _ => false) = true := by rw [Try.underlying26]
theorem Try.klaw : WideMaps.KeyLaw Try.prog 26 := deep_law_laid Try.laidOut (m := 2) (by omega) Try.row26 (by kernel_rfl) Try.wide
theorem Try.law : Keyed Try.prog 26 := Keyed.of_law Try.klaw
theorem Try.cells26 : Try.prog.cellsOf 26 = 32 := by kernel_rfl
theorem Try.cells5 : Try.prog.cellsOf 5 = 1 := by kernel_rfl
theorem Try.keyType26 : Try.prog.keyType 26 = true := by kernel_rfl
theorem zero3 (w : World) : (zeroValue 3).run Try.prog w = .ok (.int .i64 0) w := by kernel_rfl

/-- A digest: 32 bytes, as cells. -/
def Dig (d : List Value) : Prop := d.length = 32 ∧ ∀ v ∈ d, ∃ n, v = .int .u8 n ∧ (Lit.int .u8 n).wf = true
def dv (d : List Value) : Value := .agg d.toArray

theorem keyLits5 (m : Nat) (n : Int) (h : (Lit.int .u8 n).wf = true) : Try.prog.keyLits (m + 1) 5 [.int .u8 n] = some [.int .u8 n] := by
  simp [Program.keyLits, Try.underlying5, h]
theorem mapM_some {α β : Type} (f : α → Option β) (l : List α) (h : ∀ x ∈ l, ∃ y, f x = some y) : ∃ ys, l.mapM f = some ys := by
  induction l with
  | nil => exact ⟨[], rfl⟩
  | cons x l ih =>
    obtain ⟨y, hy⟩ := h x (by simp)
    obtain ⟨ys, hys⟩ := ih fun z hz => h z (by simp [hz])
    exact ⟨y :: ys, by simp [hy, hys]⟩
theorem Dig.key {d : List Value} (h : Dig d) : ∃ l, keyOf Try.prog 26 (dv d) = some l := by
  obtain ⟨h1, h2⟩ := h
  have hm : ∃ ys, (List.range 32).mapM (fun i => Try.prog.keyLits (Try.prog.types.size) 5 ((d.drop (i * Try.prog.cellsOf 5)).take (Try.prog.cellsOf 5))) = some ys := by
    refine mapM_some _ _ fun i hi => ?_
    have hi' : i < d.length := by rw [h1]; simpa using hi
    rw [Try.cells5, Nat.mul_one, List.drop_eq_getElem_cons hi']
    obtain ⟨n, hn, hw⟩ := h2 d[i] (List.getElem_mem hi')
    obtain ⟨m, hm⟩ : ∃ m, Try.prog.types.size = m + 1 := ⟨Try.prog.types.size - 1, by have := Try.row26; omega⟩
    rw [hm]
    simp only [List.take_succ_cons, List.take_zero, hn]
    exact ⟨_, keyLits5 m n hw⟩
  obtain ⟨ys, hys⟩ := hm
  refine ⟨.string (keyBytes ys.flatten), ?_⟩
  unfold keyOf
  rw [Try.underlying26]
  simp only [Try.keyType26, dv, Value.formed, Try.underlying26, Try.cells26, Value.cells, Program.keyLits, h1, hys]
  simp [h1]
theorem Dig.one {d : List Value} (h : Dig d) : ∀ v ∈ d, v.oneCell' = true := by
  intro v hv
  obtain ⟨n, rfl, _⟩ := h.2 v hv
  rfl
theorem dv_inj {d e : List Value} (h : dv d = dv e) : d = e := by
  simpa [dv] using h
theorem key_inj {d e : List Value} {l : Lit} (h1 : keyOf Try.prog 26 (dv d) = some l) (h2 : keyOf Try.prog 26 (dv e) = some l) : d = e := dv_inj (Try.law.inj h1 h2)

/-- 'a == b' at two digests. -/
theorem run_eq_dig (w : World) {d e : List Value} (hd : Dig d) (he : Dig e) : ∃ r : Bool, (Op.equal 26 (dv d) (dv e)).run Try.prog w = .ok r w ∧ (r = true ↔ d = e) := by
  obtain ⟨l1, h1⟩ := hd.key
  obtain ⟨l2, h2⟩ := he.key
  obtain ⟨r, hr, hi⟩ := run_equal_deep (P := Try.prog) w (m := 2) (by omega) (k := 26) (by kernel_rfl) Try.wide h1 h2
  refine ⟨r, hr, hi.trans ⟨fun h => ?_, fun h => ?_⟩⟩
  · subst h; exact key_inj h1 h2
  · subst h; rw [h1] at h2; exact Option.some.inj h2

/-- The index: the map's block b holds the digests ks, each at its place, from 1 on. -/
def Idx (w : World) (b : Nat) (ks : List (List Value)) : Prop :=
  ∃ D : DataW Unit, w.ownsMap Try.prog 26 (plainElem Try.prog 3) b ks.length D ∧ Maps.size D = ks.length ∧ ks.Nodup ∧
    ∀ d kl, keyOf Try.prog 26 (dv d) = some kl → (Maps.has D kl = true ↔ d ∈ ks) ∧ ∀ i : Nat, ks[i]? = some d → ∀ z, D.atKey kl z = .lit (.int .i64 ((i : Int) + 1))

theorem idx_made (w : World) : Idx (w.alloc (.map #[] 0)) w.heap.size [] := by
  refine ⟨.map [], World.ownsMap_made w Try.prog 26 (plainElem Try.prog 3), rfl, List.nodup_nil, fun d kl _ => ⟨?_, fun i h => by simp at h⟩⟩
  simp [Maps.has]
theorem Idx.kept {w w' : World} {b : Nat} {ks : List (List Value)} {row : Option Nat} (h : Idx w b ks) (hg : w.grownBy w' row) (hne : some b ≠ row) : Idx w' b ks := by
  obtain ⟨D, h1, r⟩ := h
  exact ⟨D, h1.kept hg hne, r⟩
theorem Idx.lt {w : World} {b : Nat} {ks : List (List Value)} (h : Idx w b ks) : b < w.heap.size := by
  obtain ⟨D, h1, _⟩ := h
  exact h1.lt
theorem Idx.ne_cell {w : World} {b : Nat} {ks : List (List Value)} {x : Addr} {v : Value} (h : Idx w b ks) (hx : w.cell? x = some v) : x.block ≠ b := by
  obtain ⟨D, ⟨es, clock, hb, _⟩, _⟩ := h
  intro e
  subst e
  simp [World.cell?, hb] at hx
theorem Idx.look_old {w : World} {b i : Nat} {ks : List (List Value)} {d : List Value} (h : Idx w b ks) (hd : Dig d) (hi : ks[i]? = some d) :
    (Instr.lookup 31 (.map (some b)) (dv d) true).run Try.prog w = .ok (.tuple #[.int .i64 ((i : Int) + 1), .bool true]) w := by
  obtain ⟨D, h1, h2, h3, h4⟩ := h
  obtain ⟨kl, hk⟩ := hd.key
  obtain ⟨v, ps, hrun, hR⟩ := h1.look_ok Try.law Try.underlying31 (zero3 w) (plainElem_int (H := Unit) Try.underlying3 (a := 0) (by decide)) hk
  have hm : d ∈ ks := List.mem_of_getElem? hi
  rw [((h4 d kl hk).1).2 hm] at hrun
  rw [(h4 d kl hk).2 i hi] at hR
  obtain ⟨a, rfl, hz, _⟩ := plainElem_int_inv Try.underlying3 hR
  simp at hz
  rw [hrun, hz.1]
theorem Idx.look_new {w : World} {b : Nat} {ks : List (List Value)} {d : List Value} (h : Idx w b ks) (hd : Dig d) (hi : d ∉ ks) :
    (Instr.lookup 31 (.map (some b)) (dv d) true).run Try.prog w = .ok (.tuple #[.int .i64 0, .bool false]) w := by
  obtain ⟨D, h1, h2, h3, h4⟩ := h
  obtain ⟨kl, hk⟩ := hd.key
  obtain ⟨v, ps, hrun, hR⟩ := h1.look_ok Try.law Try.underlying31 (zero3 w) (plainElem_int (H := Unit) Try.underlying3 (a := 0) (by decide)) hk
  have hf : Maps.has D kl = false := by
    cases hh : Maps.has D kl with
    | false => rfl
    | true => exact absurd (((h4 d kl hk).1).1 hh) hi
  rw [hf] at hrun
  rw [Maps.atKey_of_not_has hf] at hR
  obtain ⟨a, rfl, hz, _⟩ := plainElem_int_inv Try.underlying3 hR
  simp at hz
  rw [hrun, hz.1]
theorem Idx.len {w : World} {b : Nat} {ks : List (List Value)} (h : Idx w b ks) (ty : TypeId) : (Builtin.len_ #[31] ty #[.map (some b)]).run Try.prog w = .ok (.int .i64 ks.length) w := by
  obtain ⟨D, h1, h2, _⟩ := h
  rw [← h2]
  exact h1.len Try.underlying31 ty
theorem Idx.store {w : World} {b : Nat} {ks : List (List Value)} {d : List Value} (h : Idx w b ks) (hd : Dig d) (hi : d ∉ ks) (hn : ks.length < 1048576) :
    ∃ w', (Instr.mapUpdate 31 (.map (some b)) (dv d) (.int .i64 ((ks.length : Int) + 1))).run Try.prog w = .ok () w' ∧ Idx w' b (ks ++ [d]) ∧ w.mapTurned w' b := by
  obtain ⟨D, h1, h2, h3, h4⟩ := h
  obtain ⟨kl, hk⟩ := hd.key
  have hwf : (Lit.int .i64 ((ks.length : Int) + 1)).wf = true := WalkArith.wf_i64 (by omega)
  obtain ⟨w', hrun, hown, hturn⟩ := h1.store Try.law Try.underlying31 (by unfold maxLen; omega) hk (plainElem_int (H := Unit) Try.underlying3 hwf)
  have hf : Maps.has D kl = false := by
    cases hh : Maps.has D kl with
    | false => rfl
    | true => exact absurd (((h4 d kl hk).1).1 hh) hi
  have hlit := Try.law.key hk
  refine ⟨w', hrun, ⟨_, by simpa using hown, ?_, ?_, ?_⟩, hturn⟩
  · rw [Maps.size_put (h1.tidy Try.law), hf, h2]; simp
  · rw [List.nodup_append]
    exact ⟨h3, by simp, fun a ha b hb => by simp at hb; subst hb; intro e; subst e; exact hi ha⟩
  · intro e ke hke
    by_cases he : e = d
    · subst he
      rw [hk] at hke
      cases hke
      refine ⟨⟨fun _ => by simp, fun _ => Maps.has_put_same h1.isMap hlit _⟩, fun i hi' z => ?_⟩
      rw [Maps.atKey_put_same h1.isMap hlit]
      have : i = ks.length := by
        by_cases hlt : i < ks.length
        · rw [List.getElem?_append_left hlt] at hi'
          exact absurd (List.mem_of_getElem? hi') hi
        · have := (List.getElem?_eq_some_iff.1 hi').1
          simp at this; omega
      rw [this]
    · have hne : ke ≠ kl := fun h => he (key_inj hke (h ▸ hk))
      rw [Maps.has_put_other hne]
      refine ⟨(h4 e ke hke).1.trans ⟨fun h => by simp [h], fun h => ?_⟩, fun i hi' z => ?_⟩
      · simp at h
        rcases h with h | h
        · exact h
        · exact absurd h he
      · rw [Maps.atKey_put_other hne]
        refine (h4 e ke hke).2 i ?_ z
        by_cases hlt : i < ks.length
        · rwa [List.getElem?_append_left hlt] at hi'
        · rw [List.getElem?_append_right (by omega)] at hi'
          have := List.mem_of_getElem? hi'
          simp at this
          exact absurd this he
end Go.Proofs.Qxb6626922a
