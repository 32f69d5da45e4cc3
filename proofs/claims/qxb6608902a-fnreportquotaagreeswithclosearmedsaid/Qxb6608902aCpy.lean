import Derived.Test.Qxb6608902aGet
namespace Go.Proofs.Qxb6608902a
open Go.RowKit

/-- From a on lie the rows of cells xs, each of size cells. -/
def Rd (w : World) (a : Option Addr) (size : Nat) (xs : List (List Value)) : Prop := ∀ i c, xs[i]? = some c → ∃ b o, a = some ⟨b, o, none⟩ ∧ ∀ q v, c[q]? = some v → w.cell? ⟨b, o + i * size + q, none⟩ = some v

theorem Rd.later {w w' : World} {a : Option Addr} {size : Nat} {xs : List (List Value)} (h : Rd w a size xs) (hb : Below w.heap.size w w') : Rd w' a size xs := fun i c hc => by
  obtain ⟨b, o, hx, h1⟩ := h i c hc
  exact ⟨b, o, hx, fun q v hv => cell_later hb (h1 q v hv)⟩

def u32s (ys : List Int) : List Value := ys.map (Value.int .u32)

theorem fill_step (ys : List Int) (k : Nat) (y : Int) (hk : ys[k]? = some y) : ((u32s (ys.take k) ++ List.replicate (ys.length - k) (Value.int .u32 0)).toArray.setIfInBounds k (.int .u32 y)) = (u32s (ys.take (k + 1)) ++ List.replicate (ys.length - (k + 1)) (Value.int .u32 0)).toArray := by
  have hlt : k < ys.length := (List.getElem?_eq_some_iff.1 hk).1
  have he : ys[k] = y := (List.getElem?_eq_some_iff.1 hk).2
  rw [List.setIfInBounds_toArray]
  congr 1
  have hl : (u32s (ys.take k)).length = k := by simp [u32s]; omega
  rw [List.set_append_right _ _ (by omega), hl, Nat.sub_self]
  obtain ⟨r, hr⟩ : ∃ r, ys.length - k = r + 1 := ⟨ys.length - k - 1, by omega⟩
  have hr2 : ys.length - (k + 1) = r := by omega
  rw [hr, hr2, List.replicate_succ, List.set_cons_zero, List.take_succ_eq_append_getElem hlt, he]
  simp [u32s]

theorem equalIn_slice_nil (P : Program) (t e : TypeId) (d : Nat) (w : World) (h : P.underlying t = some (.slice e)) : (Op.equalIn (d + 1) t (.slice none 0 0) (.slice none 0 0)).run P w = .ok true w := by
  unfold Op.equalIn
  simp [run_underlying h]
theorem equalIn_slice_some (P : Program) (t e : TypeId) (d : Nat) (w : World) (x : Addr) (n c : Nat) (h : P.underlying t = some (.slice e)) : (Op.equalIn (d + 1) t (.slice (some x) n c) (.slice none 0 0)).run P w = .ok false w := by
  unfold Op.equalIn
  simp [run_underlying h]
theorem eql44_nil (w : World) : (binOp .eql 44 (.slice none 0 0) (.slice none 0 0)).run Try.prog w = .ok (.bool true) w := by
  have e : binOp .eql 44 (.slice none 0 0) (.slice none 0 0) = (do pure (.bool (← Op.equal 44 (.slice none 0 0) (.slice none 0 0)))) := rfl
  rw [e]
  simp [Op.equal, Op.maxDepth, equalIn_slice_nil Try.prog 44 _ 9999 w Try.underlying44]
theorem eql44_some (w : World) (x : Addr) (n c : Nat) : (binOp .eql 44 (.slice (some x) n c) (.slice none 0 0)).run Try.prog w = .ok (.bool false) w := by
  have e : binOp .eql 44 (.slice (some x) n c) (.slice none 0 0) = (do pure (.bool (← Op.equal 44 (.slice (some x) n c) (.slice none 0 0)))) := rfl
  rw [e]
  simp [Op.equal, Op.maxDepth, equalIn_slice_some Try.prog 44 _ 9999 w x n c Try.underlying44]

theorem made_u32 (n : Nat) : madeCells #[Value.int .u32 0] n = (List.replicate n (Value.int .u32 0)).toArray := by
  apply Array.ext_getElem?
  intro j
  by_cases hj : j < n
  · simp [madeCells, hj, Nat.mod_one]
  · rw [Array.getElem?_eq_none (by rw [size_madeCells]; omega), Array.getElem?_eq_none (by simp; omega)]
theorem make44 (len : Nat) (hm : len ≤ 1048576) (W : World) : (Instr.makeSlice 44 (.int .i64 (len : Int)) (.int .i64 (len : Int))).run Try.prog W = .ok (.slice (some ⟨W.heap.size, 0, none⟩) len len) (W.alloc (.cells (List.replicate len (Value.int .u32 0)).toArray 22)) := by
  obtain ⟨i0, hi, hz0, hz1, hz2⟩ := info_parts Try.info22
  have := run_make (P := Try.prog) W 44 22 i0 (.int .u32 0) Try.underlying44 hi hz0 .i64 .i64 len len (by omega) (by omega) (by rw [hz2]; omega) (by omega)
  rw [← made_u32]
  simpa [hz1, Value.cells] using this

set_option maxHeartbeats 1000000 in
set_option maxRecDepth 100000 in
theorem copy24 (a : Option Addr) (c : Nat) (ys : List Int) (w : World) (hn : ys.length ≤ 1048576) (hr : Rd w a 1 (ys.map fun y => [.int .u32 y])) (ha : a = none → ys = [] ∧ c = 0) :
    Calls Try.prog 24 #[.slice a ys.length c] w fun e w' => ∃ v, e = .returned v ∧ (v = .slice none 0 0 ∧ ys = [] ∨ v = .slice (some ⟨w.heap.size, 0, none⟩) ys.length ys.length) ∧ w'.ownsRow w.heap.size 22 1 v ys.length (u32s ys) ∧ Below w.heap.size w w' := by
  cases a with
  | none =>
    obtain ⟨rfl, rfl⟩ := ha rfl
    have hq := eql44_nil w
    go_enter Try.func24, Try.ntmps24
    go_wp2
    go_ret
    exact ⟨_, rfl, (by first | exact .inl ⟨rfl, rfl⟩ | exact .inl rfl), World.ownsRow_nil _ _ _ _, Below.refl _ _⟩
  | some x =>
    have hq := eql44_some w x ys.length c
    have hmk := make44 ys.length hn w
    clear ha
    go_enter Try.func24, Try.ntmps24
    go_wp2
    go_loopw [4] (fun i wr => ∃ k : Nat, k ≤ ys.length ∧ i = .int .i64 k ∧ wr.heap[w.heap.size]? = some (.cells (u32s (ys.take k) ++ List.replicate (ys.length - k) (Value.int .u32 0)).toArray 22) ∧ Below w.heap.size w wr) (fun i _ => ys.length - (intOf i).toNat)
    case atStart => exact ⟨0, Nat.zero_le _, rfl, by rw [heap_alloc_new]; rfl, (Below.refl _ _).alloc (Nat.le_refl _) _⟩
    case round =>
      obtain ⟨k, hk, rfl, hB, hb⟩ := hrel
      by_cases hlt : k < ys.length
      · obtain ⟨y, hy⟩ : ∃ y, ys[k]? = some y := ⟨_, List.getElem?_eq_getElem hlt⟩
        obtain ⟨b, o, e, h1⟩ := hr k [.int .u32 y] (by simp [hy])
        cases e
        have g1 : wr.cell? ⟨b, o + k, none⟩ = some (.int .u32 y) := by
          have := cell_later hb (h1 0 _ rfl)
          simpa using this
        have F1 := heap_setCell_same wr w.heap.size k _ _ (.int .u32 y) hB
        rw [fill_step ys k y hy] at F1
        have hs : (u32s (ys.take k) ++ List.replicate (ys.length - k) (Value.int .u32 0)).length = ys.length := by simp [u32s]; omega
        have g2 : ∃ v, wr.cell? ⟨w.heap.size, k, none⟩ = some v := by
          rw [cell_of_row _ _ _ _ _ _ hB]
          exact ⟨_, by rw [List.getElem?_toArray]; exact List.getElem?_eq_getElem (by omega)⟩
        obtain ⟨v, g2⟩ := g2
        have g3 : wr.frozen? ⟨w.heap.size, k, none⟩ = false := frozen_of_row _ _ _ _ _ hB
        have b1 : (0 : Int) ≤ (k : Int) := by omega
        have b2 : (k : Int) < (ys.length : Int) := by omega
        have HF : Hid _ := F1
        have HB : Hid _ := hb.setCell (p := ⟨w.heap.size, k, none⟩) (Nat.le_refl _) (.int .u32 y)
        clear F1 hB hb hr hy h1
        go_wp2
        go_roundw
        case rel => exact ⟨k + 1, by omega, by go_num, Hid.out HF, Hid.out HB⟩
        case measure => simp [intOf]; omega
      · obtain rfl : k = ys.length := by omega
        go_wp2
        go_ret
        refine ⟨_, rfl, .inr rfl, ?_, hb⟩
        have e : (u32s (ys.take ys.length) ++ List.replicate (ys.length - ys.length) (Value.int .u32 0)) = u32s ys := by simp
        rw [e] at hB
        exact ⟨by simp [u32s], .inr ⟨w.heap.size, ys.length, _, rfl, Nat.le_refl _, hB, Nat.le_refl _, by unfold maxLen; omega, by simp [u32s], List.take_of_length_le (by simp [u32s])⟩⟩
end Go.Proofs.Qxb6608902a
