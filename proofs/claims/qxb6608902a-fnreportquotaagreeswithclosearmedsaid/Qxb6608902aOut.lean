import Derived.Test.Qxb6608902aTrg
namespace Go.Proofs.Qxb6608902a
open Go.RowKit

theorem Try.has106 : ((Try.prog.info? 106).bind (·.zero)).isSome = true := by kernel_rfl
theorem make100 (w : World) : (Instr.makeSlice 100 (.int .i64 0) (.int .i64 0)).run Try.prog w = .ok (.slice (some ⟨w.heap.size, 0, none⟩) 0 0) (w.alloc (.cells #[] 106)) := by
  have h := Try.has106
  cases hi : Try.prog.info? 106 with
  | none => rw [hi] at h; cases h
  | some i =>
    cases hz : i.zero with
    | none => rw [hi] at h; simp [hz] at h
    | some z =>
      have := run_make (P := Try.prog) w 100 106 i z Try.underlying100 hi hz .i64 .i64 0 0 (by omega) (by omega) (by omega) (by omega)
      simpa [madeCells, Array.range_zero'] using this

set_option maxRecDepth 100000 in
set_option maxHeartbeats 1000000 in
theorem outc18 (im : Bool) (a : Option Addr) (c : Nat) (ys : List Int) (w : World) (hn : ys.length ≤ 1048576) (hr : Rd w a 1 (ys.map fun y => [.int .u32 y])) (ha : a = none → ys = [] ∧ c = 0) :
    Calls Try.prog 18 #[.bool im, .slice none 0 0, .slice a ys.length c] w fun e w' => ∃ O tb ak, e = .returned (.pointer (some ⟨O, 0, none⟩)) ∧ w.heap.size ≤ O ∧ w'.heap[O]? = some (.cells #[.bool im, .slice tb 0 0, ak] 140) ∧ w'.ownsRow w.heap.size 22 1 ak ys.length (u32s ys) ∧ Below w.heap.size w w' := by
  have hmk := make100 w
  have hb1 : Below w.heap.size w (w.alloc (.cells #[] 106)) := (Below.refl _ _).alloc (Nat.le_refl _) _
  have hcp := copy24 a c ys (w.alloc (.cells #[] 106)) hn (hr.later hb1) ha
  have HC : Hid _ := hcp
  clear hcp hr
  go_enter Try.func18, Try.ntmps18
  go_wp2
  refine wp_loop_rounds 1 ?_; rw [rounds_succ]
  go_wp2_with fail
  refine Calls.mono (Hid.out HC) ?_
  rintro e w1 ⟨v, rfl, hv, ho, hb⟩
  have ho' : w1.ownsRow w.heap.size 22 1 v ys.length (u32s ys) := by
    refine ⟨ho.1, ?_⟩
    rcases ho.2 with h | ⟨g, cap, cur, h1, h2, h3⟩
    · exact .inl h
    · exact .inr ⟨g, cap, cur, h1, by simp at h2; omega, h3⟩
  have hb' : Below w.heap.size w w1 := hb1.trans (hb.mono (by simp))
  clear ho hb HC hb1
  rw [World.size_alloc] at hv
  rcases hv with ⟨rfl, rfl⟩ | rfl
  · go_wp2_with fail
    refine (new39 im (some ⟨w.heap.size, 0, none⟩) 0 0 none 0 0 w1).mono ?_
    rintro e w2 ⟨rfl, rfl⟩
    go_wp2
    go_ret
    exact ⟨w1.heap.size, _, _, rfl, hb'.size, heap_alloc_new _ _, ho'.alloc _, hb'.alloc hb'.size _⟩
  · go_wp2_with fail
    refine (new39 im (some ⟨w.heap.size, 0, none⟩) 0 0 (some ⟨w.heap.size + 1, 0, none⟩) ys.length ys.length w1).mono ?_
    rintro e w2 ⟨rfl, rfl⟩
    go_wp2
    go_ret
    exact ⟨w1.heap.size, _, _, rfl, hb'.size, heap_alloc_new _ _, ho'.alloc _, hb'.alloc hb'.size _⟩
end Go.Proofs.Qxb6608902a
