import Derived.Test.Qxb6626922aKeys
import Derived.Deep.QuietTactic
import Derived.BigQuiet
import Derived.Deep.RegionHeld3
import Derived.Deep.DrawnRows
namespace Go.Proofs.Qxb6626922a
open Go.RowKit Go.Maps

attribute [local go_sem ↓] Go.wp_at_zero Go.wp_at_succ

theorem Try.size26 : (Try.prog.info? 26).map (·.size) = some 32 := by kernel_rfl
theorem range_new (w : World) (d : List Value) : (w.alloc (.cells d.toArray 26)).rangeAt w.heap.size 0 d := by
  intro j v hv
  rw [Nat.zero_add, World.cell?_alloc_new]
  simpa using hv

theorem grown_drew {w W : World} {r : Option Nat} (h : w.grownBy W r) : w.grownBy W.drew r := ⟨h.os, h.tape, h.output, h.size, h.block⟩

set_option maxHeartbeats 400000 in
theorem new6 (w : World) : Calls Try.prog 6 #[] w fun e w' => e = .returned (.pointer (some ⟨w.heap.size + 1, 0, none⟩)) ∧ w' = (w.alloc (.map #[] 0)).alloc (.cells #[.map (some w.heap.size)] 33) := by
  have hmm := @run_makeMap Try.prog
  go_enter Try.func6, Try.ntmps6
  go_wp2
  go_ret
  exact ⟨rfl, rfl⟩

set_option maxHeartbeats 400000 in
theorem add_old (w : World) (sb b i : Nat) (ks : List (List Value)) (d : List Value) (hd : Dig d) (hc : w.cell? ⟨sb, 0, none⟩ = some (.map (some b))) (hI : Idx w b ks) (hi : ks[i]? = some d) :
    Calls Try.prog 7 #[.pointer (some ⟨sb, 0, none⟩), dv d] w fun e w' => e = .returned (.tuple #[.int .i64 ((i : Int) + 1), .bool false]) ∧ Idx w' b ks ∧ w.grownBy w' (some b) := by
  have hsb : sb < w.heap.size := block_lt_of_cell hc
  have hI' : Idx (w.alloc (.cells d.toArray 26)) b ks := hI.kept (World.grownBy_alloc w _ none) (by simp)
  have hlook : ∀ n, (Instr.lookup 31 (.map (some b)) (dv d) true).run Try.prog ((w.alloc (.cells d.toArray 26)).drewN n) = .ok (.tuple #[.int .i64 ((i : Int) + 1), .bool true]) ((w.alloc (.cells d.toArray 26)).drewN n) := fun n => Idx.look_old (w := (w.alloc (.cells d.toArray 26)).drewN n) hI' hd hi
  have hr : (w.alloc (.cells d.toArray 26)).rangeAt w.heap.size 0 d := range_new w d
  have HI : Hid (Idx (w.alloc (.cells d.toArray 26)) b ks) := hI'
  have hcW : (w.alloc (.cells d.toArray 26)).cell? ⟨sb, 0, none⟩ = some (.map (some b)) := by rw [World.cell?_alloc_lt _ _ _ hsb]; exact hc
  have HG : Hid (w.grownBy (w.alloc (.cells d.toArray 26)) (some b)) := World.grownBy_alloc w _ _
  have hu := Try.underlying26
  have hlen : d.length = 32 := hd.1
  have hin : (Try.prog.info? 26).map (·.size) = some d.length := by rw [Try.size26, hlen]
  have hone := hd.one
  clear hI hI' hd hi
  unfold dv at *
  go_enter Try.func7, Try.ntmps7
  go_wp2
  obtain ⟨N, hN⟩ : ∃ N, N = w.heap.size := ⟨_, rfl⟩
  rw [← hN] at hr ⊢
  generalize w.alloc (.cells d.toArray 26) = W at *
  clear hN hc hsb
  go_region_held3 (fun w' => w'.cell? ⟨sb, 0, none⟩ = some (.map (some b)) ∧ w'.rangeAt N 0 d ∧ (Instr.lookup 31 (.map (some b)) (.agg d.toArray) true).run Try.prog w' = .ok (.tuple #[.int .i64 ((i : Int) + 1), .bool true]) w') (exact ⟨hcW, hr, hlook _⟩) (fail)
  go_wp2
  go_ret2
  exact ⟨rfl, HI.out, grown_drew HG.out⟩
set_option maxHeartbeats 400000 in
theorem add_new (w : World) (sb b : Nat) (ks : List (List Value)) (d : List Value) (hd : Dig d) (hc : w.cell? ⟨sb, 0, none⟩ = some (.map (some b))) (hI : Idx w b ks) (hi : d ∉ ks) (hn : ks.length < 1048576) :
    Calls Try.prog 7 #[.pointer (some ⟨sb, 0, none⟩), dv d] w fun e w' => e = .returned (.tuple #[.int .i64 ((ks.length : Int) + 1), .bool true]) ∧ Idx w' b (ks ++ [d]) ∧ w.grownBy w' (some b) := by
  have hsb : sb < w.heap.size := block_lt_of_cell hc
  have hI' : Idx (w.alloc (.cells d.toArray 26)) b ks := hI.kept (World.grownBy_alloc w _ none) (by simp)
  have hlook : ∀ n, (Instr.lookup 31 (.map (some b)) (dv d) true).run Try.prog ((w.alloc (.cells d.toArray 26)).drewN n) = .ok (.tuple #[.int .i64 0, .bool false]) ((w.alloc (.cells d.toArray 26)).drewN n) := fun n => Idx.look_new (w := (w.alloc (.cells d.toArray 26)).drewN n) hI' hd hi
  have hlenm : ∀ ty, (Builtin.len_ #[31] ty #[.map (some b)]).run Try.prog (w.alloc (.cells d.toArray 26)).drew = .ok (.int .i64 ks.length) (w.alloc (.cells d.toArray 26)).drew := fun ty => Idx.len (w := (w.alloc (.cells d.toArray 26)).drew) hI' ty
  obtain ⟨w1, hupd, hI1, hturn⟩ := Idx.store (w := (w.alloc (.cells d.toArray 26)).drew.drew) hI' hd hi hn
  have hr : (w.alloc (.cells d.toArray 26)).rangeAt w.heap.size 0 d := range_new w d
  have HI : Hid (Idx (w.alloc (.cells d.toArray 26)) b ks) := hI'
  have hcW : (w.alloc (.cells d.toArray 26)).cell? ⟨sb, 0, none⟩ = some (.map (some b)) := by rw [World.cell?_alloc_lt _ _ _ hsb]; exact hc
  have HG : Hid (w.grownBy (w.alloc (.cells d.toArray 26)) (some b)) := World.grownBy_alloc w _ _
  have hgt := hturn.grown
  have hcW1 : w1.cell? ⟨sb, 0, none⟩ = some (.map (some b)) := hgt.cell hcW (by have := hI'.ne_cell hcW; simpa using this)
  have hr1 : w1.rangeAt w.heap.size 0 d := fun j v hv => hgt.cell (hr j v hv) (by have := hI'.ne_cell (hr j v hv); simpa using this)
  have HI1 : Hid (Idx w1 b (ks ++ [d])) := hI1
  have HG1 : Hid (w.grownBy w1 (some b)) := HG.out.trans (World.grownBy.trans (grown_drew (grown_drew (World.grownBy.refl _ _))) hgt)
  clear hgt hturn hI1
  have hu := Try.underlying26
  have hlen : d.length = 32 := hd.1
  have hin : (Try.prog.info? 26).map (·.size) = some d.length := by rw [Try.size26, hlen]
  have hone := hd.one
  clear hI hI' hd hi
  unfold dv at *
  go_enter Try.func7, Try.ntmps7
  go_wp2
  obtain ⟨N, hN⟩ : ∃ N, N = w.heap.size := ⟨_, rfl⟩
  rw [← hN] at hr hr1 ⊢
  generalize w.alloc (.cells d.toArray 26) = W at *
  clear hN hc hsb
  go_region_held3 (fun w' => w'.cell? ⟨sb, 0, none⟩ = some (.map (some b)) ∧ w'.rangeAt N 0 d ∧ (Instr.lookup 31 (.map (some b)) (.agg d.toArray) true).run Try.prog w' = .ok (.tuple #[.int .i64 0, .bool false]) w') (exact ⟨hcW, hr, hlook _⟩) (fail)
  go_wp2
  go_region_held3 (fun w' => w'.cell? ⟨sb, 0, none⟩ = some (.map (some b)) ∧ w'.rangeAt N 0 d) (first | exact ⟨hcW, hr⟩ | exact ⟨hcW1, hr1⟩) (fail)
  go_wp2
  go_ret2
  exact ⟨rfl, HI1.out, HG1.out⟩
end Go.Proofs.Qxb6626922a
