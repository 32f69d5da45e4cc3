import Derived.Test.Qxb6608902aClose
namespace Go.Proofs.Qxb6608902a
open Go.RowKit

/-- Is a container of method m blocked? -/
def blkB (m : Int) (hg ex te : Bool) : Bool := (m == 0) && (hg && (ex && te))

/-- What a rating group's grant is: none, or a grant that is used up, that ends. -/
def GrantAt (w : World) (gp : Option Addr) (hg ex te : Bool) : Prop :=
  (gp = none ∧ hg = false) ∨ (∃ B, gp = some ⟨B, 0, none⟩ ∧ hg = true ∧ w.cell? ⟨B, 8, none⟩ = some (.bool ex) ∧ w.cell? ⟨B, 3, none⟩ = some (.bool te))

set_option maxHeartbeats 1000000 in
theorem blocked61 (G o C j : Nat) (m : Int) (gp : Option Addr) (hg ex te : Bool) (w : World) (h1 : w.cell? ⟨C, j + 2, none⟩ = some (.int .u8 m)) (h2 : w.cell? ⟨G, o + 4, none⟩ = some (.pointer gp)) (h3 : GrantAt w gp hg ex te) :
    Calls Try.prog 61 #[.pointer (some ⟨G, o, none⟩), .pointer (some ⟨C, j, none⟩)] w fun e w' => e = .returned (.bool (blkB m hg ex te)) ∧ w = w' := by
  by_cases hm : m = 0
  · subst hm
    rcases h3 with ⟨rfl, rfl⟩ | ⟨B, rfl, rfl, g1, g2⟩
    · have e : blkB 0 false ex te = false := by simp [blkB]
      rw [e]
      go_enter Try.func61, Try.ntmps61
      go_wp2
      go_ret
      exact ⟨rfl, rfl⟩
    · cases ex with
      | false =>
        have e : blkB 0 true false te = false := by simp [blkB]
        rw [e]
        go_enter Try.func61, Try.ntmps61
        go_wp2
        go_ret
        exact ⟨rfl, rfl⟩
      | true =>
        have e : blkB 0 true true te = te := by simp [blkB]
        rw [e]
        go_enter Try.func61, Try.ntmps61
        go_wp2
        go_ret
        exact ⟨rfl, rfl⟩
  · have e : blkB m hg ex te = false := by simp [blkB, hm]
    rw [e]
    have hm' : (m == 0) = false := by simp [hm]
    go_enter Try.func61, Try.ntmps61
    go_wp2
    go_ret
    exact ⟨rfl, rfl⟩
end Go.Proofs.Qxb6608902a
