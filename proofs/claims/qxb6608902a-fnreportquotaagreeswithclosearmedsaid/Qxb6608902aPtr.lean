import Derived.Test.Qxb6608902aRows
import Derived.WalkKit
import Derived.WalkSpells
import Derived.WalkLawsBesides
import Derived.Deep.QuietTactic
import Derived.BigQuiet
import Derived.Deep.RegionWith
import Derived.Deep.DeepCutAuto
import Derived.LaidEqlPtr
namespace Go.Proofs.Qxb6608902a
open Go.RowKit

theorem blk (w : World) : Below w.heap.size w w := Below.refl _ _

set_option maxHeartbeats 400000 in
theorem svc8 (id : Int) (b : Bool) (w : World) : Calls Try.prog 8 #[.int .u32 id, .bool b] w fun e w' => e = .returned (.agg #[.int .u32 id, .bool b]) ∧ Below w.heap.size w w' := by
  go_enter Try.func8, Try.ntmps8
  go_wp2
  exact bodyPost_ret (v := .agg #[.int .u32 id, .bool b]) (by simp [results, Try.results8, go_sem]) rfl ⟨rfl, (Below.refl _ _).alloc (Nat.le_refl _) _⟩

set_option maxHeartbeats 400000 in
theorem ptr29_no (id : Int) (w : World) : Calls Try.prog 29 #[.agg #[.int .u32 id, .bool false]] w fun e w' => e = .returned (.pointer none) ∧ Below w.heap.size w w' := by
  go_enter Try.func29, Try.ntmps29
  go_wp2
  go_ret
  exact ⟨rfl, (Below.refl _ _).alloc (Nat.le_refl _) _⟩

set_option maxHeartbeats 400000 in
theorem ptr29_yes (id : Int) (w : World) : Calls Try.prog 29 #[.agg #[.int .u32 id, .bool true]] w fun e w' => ∃ g, e = .returned (.pointer (some ⟨g, 0, none⟩)) ∧ w.heap.size ≤ g ∧ w'.heap[g]? = some (.cells #[.int .u32 id] 22) ∧ Below w.heap.size w w' := by
  go_enter Try.func29, Try.ntmps29
  go_wp2
  go_ret
  exact ⟨_, rfl, by omega, heap_alloc2_new w _ _, ((Below.refl _ _).alloc (Nat.le_refl _) _).alloc (by simp) _⟩

set_option maxHeartbeats 400000 in
theorem ptr_no (id : Int) (w : World) : Calls Try.prog 13 #[.agg #[.int .u32 id, .bool false]] w fun e w' => e = .returned (.pointer none) ∧ Below w.heap.size w w' := by
  go_enter Try.func13, Try.ntmps13
  go_wp2_with fail
  refine (ptr29_no id _).mono ?_
  rintro e w1 ⟨rfl, h1⟩
  go_wp2
  go_ret
  exact ⟨rfl, ((Below.refl _ _).alloc (Nat.le_refl _) _).trans (h1.mono (by simp))⟩

set_option maxHeartbeats 400000 in
theorem ptr_yes (id : Int) (w : World) : Calls Try.prog 13 #[.agg #[.int .u32 id, .bool true]] w fun e w' => ∃ g, e = .returned (.pointer (some ⟨g, 0, none⟩)) ∧ w.heap.size ≤ g ∧ w'.heap[g]? = some (.cells #[.int .u32 id] 22) ∧ Below w.heap.size w w' := by
  go_enter Try.func13, Try.ntmps13
  go_wp2_with fail
  refine (ptr29_yes id _).mono ?_
  rintro e w1 ⟨g, rfl, hg, hc, h1⟩
  go_wp2
  go_ret
  exact ⟨g, rfl, by simp at hg; omega, hc, ((Below.refl _ _).alloc (Nat.le_refl _) _).trans (h1.mono (by simp))⟩

/-- Below, once more by a new block's number: what a block made since holds, it holds. -/
theorem heap_lt {w : World} {g : Nat} {o : Obj} (h : w.heap[g]? = some o) : g < w.heap.size := (Array.getElem?_eq_some_iff.1 h).1

theorem Try.info22 : (Try.prog.info? 22).map (fun i => (i.zero, i.size, i.bytes)) = some (some (.int .u32 0), 1, 4) := by kernel_rfl
theorem box2 {w w2 : World} {a b : Value} {T : TypeId} (h : Below (w.alloc (.cells #[a, b] T)).heap.size (w.alloc (.cells #[a, b] T)) w2) : w2.cell? ⟨w.heap.size, 0, none⟩ = some a ∧ w2.cell? ⟨w.heap.size, 1, none⟩ = some b := by
  have hh : w2.heap[w.heap.size]? = some (.cells #[a, b] T) := (h.block _ (by simp)).trans (heap_alloc_new w _)
  exact ⟨by rw [cell_of_row _ _ 0 _ _ _ hh]; rfl, by rw [cell_of_row _ _ 1 _ _ _ hh]; rfl⟩
theorem one_cell {w : World} {g : Nat} {v : Value} {T : TypeId} (h : w.heap[g]? = some (.cells #[v] T)) : w.cell? ⟨g, 0, none⟩ = some v ∧ w.frozen? ⟨g, 0, none⟩ = false :=
  ⟨by rw [cell_of_row _ _ 0 _ _ _ h]; rfl, frozen_of_row _ _ 0 _ _ h⟩

set_option maxHeartbeats 1000000 in
theorem law4_no (id : Int) (w : World) : Calls Try.prog 4 #[.int .u32 id, .bool false] w fun e w' => e = .returned (.bool true) ∧ Below w.heap.size w w' := by
  go_enter Try.func4, Try.ntmps4
  go_wp2_with fail
  refine (svc8 id false w).mono ?_
  rintro e w1 ⟨rfl, h1⟩
  have s1 := h1.size
  go_wp2_with fail
  refine (ptr_no id _).mono ?_
  rintro e w2 ⟨rfl, h2⟩
  obtain ⟨c0, c1⟩ := box2 h2
  have b2 : Below w.heap.size w w2 := (h1.alloc s1 _).trans (h2.mono (by simp; omega))
  have s2 := b2.size
  clear h1 h2
  go_wp2_with fail
  refine (ptr_no id _).mono ?_
  rintro e w3 ⟨rfl, h3⟩
  go_wp2
  go_ret
  exact ⟨rfl, b2.trans (h3.mono s2)⟩

set_option maxRecDepth 100000 in
set_option maxHeartbeats 1000000 in
theorem law4_yes (id : Int) (w : World) : Calls Try.prog 4 #[.int .u32 id, .bool true] w fun e w' => e = .returned (.bool true) ∧ Below w.heap.size w w' := by
  go_enter Try.func4, Try.ntmps4
  go_wp2_with fail
  refine (svc8 id true w).mono ?_
  rintro e w1 ⟨rfl, h1⟩
  have s1 := h1.size
  go_wp2_with fail
  refine (ptr_yes id _).mono ?_
  rintro e w2 ⟨g, rfl, hg, hgc, h2⟩
  obtain ⟨c0, c1⟩ := box2 h2
  have b2 : Below w.heap.size w w2 := (h1.alloc s1 _).trans (h2.mono (by simp; omega))
  have s2 := b2.size
  have lg := heap_lt hgc
  have hg1 : w1.heap.size < g := by simp at hg; omega
  clear h1 h2 hg
  go_wp2_with fail
  refine (ptr_yes id _).mono ?_
  rintro e w3 ⟨q, rfl, hq, hqc, h3⟩
  have c0' := (h3.cell (p := ⟨w1.heap.size, 0, none⟩) (by simp; omega)).trans c0
  have c1' := (h3.cell (p := ⟨w1.heap.size, 1, none⟩) (by simp; omega)).trans c1
  obtain ⟨gv, gf⟩ := one_cell ((h3.block _ lg).trans hgc)
  obtain ⟨qv, qf⟩ := one_cell hqc
  have hgq : ¬ g = q := by omega
  have hgq' : ¬ q = g := by omega
  have lq := heap_lt hqc
  have heq : (binOp .eql 38 (.pointer (some ⟨g, 0, none⟩)) (.pointer (some ⟨q, 0, none⟩))).run Try.prog w3 = .ok (.bool false) w3 := by
    obtain ⟨i0, hi, hz0, hz1, hz2⟩ := info_parts Try.info22
    exact run_eql_ptr_other w3 Try.underlying38 hi (by rw [hz1]; decide) (by intro e; cases e; omega) ((h3.block _ lg).trans hgc) hqc
  have b3 : Below w.heap.size w w3 := b2.trans (h3.mono s2)
  clear c0 c1 hgc hqc h3 b2
  go_wp2_with fail
  refine (ptr_yes id _).mono ?_
  rintro e w4 ⟨t, rfl, ht, htc, h4⟩
  obtain ⟨tv, tf⟩ := one_cell htc
  have hne : (⟨g, 0, none⟩ : Addr) ≠ ⟨q, 0, none⟩ := by intro e; cases e; omega
  have qv' := (h4.cell (p := ⟨q, 0, none⟩) (by simp; omega)).trans ((World.cell?_setCell_other _ _ _ _ hne).trans qv)
  have b4 : Below w.heap.size w w4 := (b3.setCell (p := ⟨g, 0, none⟩) (by simp; omega) _).trans (h4.mono (by simp; omega))
  clear h4 htc b3 hne
  go_wp2
  go_ret
  exact ⟨rfl, b4⟩

theorem law4 (id : Int) (b : Bool) (w : World) : Calls Try.prog 4 #[.int .u32 id, .bool b] w fun e w' => e = .returned (.bool true) ∧ Below w.heap.size w w' := by
  cases b
  · exact law4_no id w
  · exact law4_yes id w
end Go.Proofs.Qxb6608902a
