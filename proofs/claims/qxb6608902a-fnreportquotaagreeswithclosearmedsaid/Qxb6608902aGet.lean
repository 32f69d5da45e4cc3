import Derived.Test.Qxb6608902aNew
namespace Go.Proofs.Qxb6608902a
open Go.RowKit

theorem below_drewN (w : World) (n : Nat) : Below w.heap.size w (w.drewN n) := ⟨rfl, rfl, rfl, Nat.le_refl _, fun _ _ => rfl⟩

set_option maxHeartbeats 1000000 in
theorem get43 (S : Nat) (gv tv : Value) (cl : Int) (rv : Value) (w : World) (h : w.heap[S]? = some (.cells (sess gv tv cl rv) 116)) :
    Calls Try.prog 43 #[.pointer (some ⟨S, 0, none⟩)] w fun e w' => e = .returned (.tuple #[.int .i64 cl, rv, gv]) ∧ ∃ n, w' = w.drewN n := by
  have h4 : w.cell? ⟨S, 4, none⟩ = some gv := by rw [cell_of_row _ _ _ _ _ _ h]; rfl
  have h7 : w.cell? ⟨S, 7, none⟩ = some (.int .i64 cl) := by rw [cell_of_row _ _ _ _ _ _ h]; rfl
  have h8 : w.cell? ⟨S, 8, none⟩ = some rv := by rw [cell_of_row _ _ _ _ _ _ h]; rfl
  clear h
  go_enter Try.func43, Try.ntmps43
  go_wp2_with fail
  go_quiet (fail)
  go_wp2
  exact bodyPost_ret (v := .tuple #[.int .i64 cl, rv, gv]) (by simp [results, Try.results43, go_sem]) rfl ⟨rfl, _, rfl⟩

set_option maxHeartbeats 1000000 in
theorem get44 (R k : Nat) (a : Int) (b : Bool) (m gid cl : Int) (typ : ByteArray) (r d up dn : Int) (w : World) (h : ∀ q v, (recCells a b m gid cl typ r d up dn)[q]? = some v → w.cell? ⟨R, k + q, none⟩ = some v) :
    Calls Try.prog 44 #[.pointer (some ⟨R, k, none⟩)] w fun e w' => e = .returned (.tuple (recCells a b m gid cl typ r d up dn).toArray) ∧ ∃ n, w' = w.drewN n := by
  have h0 : w.cell? ⟨R, k, none⟩ = some _ := h 0 _ rfl
  have h1 : w.cell? ⟨R, k + 1, none⟩ = some _ := h 1 _ rfl
  have h2 : w.cell? ⟨R, k + 2, none⟩ = some _ := h 2 _ rfl
  have h3 : w.cell? ⟨R, k + 3, none⟩ = some _ := h 3 _ rfl
  have h4 : w.cell? ⟨R, k + 4, none⟩ = some _ := h 4 _ rfl
  have h5 : w.cell? ⟨R, k + 5, none⟩ = some _ := h 5 _ rfl
  have h6 : w.cell? ⟨R, k + 6, none⟩ = some _ := h 6 _ rfl
  have h7 : w.cell? ⟨R, k + 7, none⟩ = some _ := h 7 _ rfl
  have h8 : w.cell? ⟨R, k + 8, none⟩ = some _ := h 8 _ rfl
  have h9 : w.cell? ⟨R, k + 9, none⟩ = some _ := h 9 _ rfl
  clear h
  go_enter Try.func44, Try.ntmps44
  go_wp2_with fail
  go_quiet (fail)
  go_wp2
  exact bodyPost_ret (v := .tuple (recCells a b m gid cl typ r d up dn).toArray) (by simp [results, Try.results44, go_sem, recCells]) rfl ⟨rfl, _, rfl⟩

set_option maxHeartbeats 1000000 in
theorem get46 (C k : Nat) (c : Ct) (w : World) (h : ∀ q v, c.cells[q]? = some v → w.cell? ⟨C, k + q, none⟩ = some v) :
    Calls Try.prog 46 #[.pointer (some ⟨C, k, none⟩)] w fun e w' => e = .returned (.tuple c.cells.toArray) ∧ ∃ n, w' = w.drewN n := by
  have h0 : w.cell? ⟨C, k, none⟩ = some _ := h 0 _ rfl
  have h1 : w.cell? ⟨C, k + 1, none⟩ = some _ := h 1 _ rfl
  have h2 : w.cell? ⟨C, k + 2, none⟩ = some _ := h 2 _ rfl
  have h3 : w.cell? ⟨C, k + 3, none⟩ = some _ := h 3 _ rfl
  have h4 : w.cell? ⟨C, k + 4, none⟩ = some _ := h 4 _ rfl
  clear h
  go_enter Try.func46, Try.ntmps46
  go_wp2_with fail
  go_quiet (fail)
  go_wp2
  exact bodyPost_ret (v := .tuple c.cells.toArray) (by simp [results, Try.results46, go_sem, Ct.cells]) rfl ⟨rfl, _, rfl⟩

set_option maxHeartbeats 1000000 in
theorem get47 (O : Nat) (im tr ak : Value) (w : World) (h : w.heap[O]? = some (.cells #[im, tr, ak] 140)) :
    Calls Try.prog 47 #[.pointer (some ⟨O, 0, none⟩)] w fun e w' => e = .returned (.tuple #[im, tr, ak]) ∧ ∃ n, w' = w.drewN n := by
  have h0 : w.cell? ⟨O, 0, none⟩ = some im := by rw [cell_of_row _ _ _ _ _ _ h]; rfl
  have h1 : w.cell? ⟨O, 1, none⟩ = some tr := by rw [cell_of_row _ _ _ _ _ _ h]; rfl
  have h2 : w.cell? ⟨O, 2, none⟩ = some ak := by rw [cell_of_row _ _ _ _ _ _ h]; rfl
  clear h
  go_enter Try.func47, Try.ntmps47
  go_wp2_with fail
  go_quiet (fail)
  go_wp2
  exact bodyPost_ret (v := .tuple #[im, tr, ak]) (by simp [results, Try.results47, go_sem]) rfl ⟨rfl, _, rfl⟩
end Go.Proofs.Qxb6608902a
