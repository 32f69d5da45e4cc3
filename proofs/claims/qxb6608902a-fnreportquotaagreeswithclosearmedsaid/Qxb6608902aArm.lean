import Derived.Test.Qxb6608902aStb
namespace Go.Proofs.Qxb6608902a
open Go.RowKit

theorem equalIn_nilFunc (P : Program) (t : TypeId) (ps rs : Array TypeId) (v : Bool) (d : Nat) (w : World) (h : P.underlying t = some (.func ps rs v)) : (Op.equalIn (d + 1) t .nilFunc .nilFunc).run P w = .ok true w := by
  unfold Op.equalIn
  simp [run_underlying h]
theorem eql_nilFunc (w : World) : (binOp .eql 148 .nilFunc .nilFunc).run Try.prog w = .ok (.bool true) w := by
  have e : binOp .eql 148 .nilFunc .nilFunc = (do pure (.bool (← Op.equal 148 .nilFunc .nilFunc))) := rfl
  rw [e]
  simp [Op.equal, Op.maxDepth, equalIn_nilFunc Try.prog 148 _ _ _ 9999 w Try.underlying148]

set_option maxHeartbeats 1000000 in
theorem report65 (T : Nat) (m : Int) (hm : m = 0 ∨ m = 1) (w : World) (h6 : w.cell? ⟨T, 6, none⟩ = some (.int .u8 2)) (h7 : w.cell? ⟨T, 7, none⟩ = some (.int .u8 0)) :
    Calls Try.prog 65 #[.pointer (some ⟨T, 0, none⟩), .int .u8 m] w fun e w' => e = .returned (.int .u8 (if m = 0 then 2 else 0)) ∧ w = w' := by
  rcases hm with rfl | rfl
  · go_enter Try.func65, Try.ntmps65
    go_wp2
    go_ret
    exact ⟨rfl, rfl⟩
  · go_enter Try.func65, Try.ntmps65
    go_wp2
    go_ret
    exact ⟨rfl, rfl⟩

set_option maxHeartbeats 1000000 in
theorem armed58_nil (ta : Option Addr) (tc : Nat) (typ : ByteArray) (p : Option Addr) (w : World) :
    Calls Try.prog 58 #[.slice ta 0 tc, .string typ, .pointer p, .nilFunc] w fun e w' => e = .returned (.int .u8 0) ∧ w = w' := by
  go_enter Try.func58, Try.ntmps58
  go_wp2
  go_loop [9, 14] (fun r i => i = .int .i64 0 ∧ r = .int .u8 0) (fun _ _ => 0)
  case atStart => exact ⟨rfl, rfl⟩
  case round =>
    obtain ⟨rfl, rfl⟩ := hrel
    go_wp2
    go_ret
    exact ⟨rfl, rfl⟩

set_option maxRecDepth 100000 in
set_option maxHeartbeats 2000000 in
theorem armed58_one (T C j : Nat) (typ : ByteArray) (m : Int) (hm : m = 0 ∨ m = 1) (w : World) (h0 : w.cell? ⟨T, 0, none⟩ = some (.string typ)) (h6 : w.cell? ⟨T, 6, none⟩ = some (.int .u8 2)) (h7 : w.cell? ⟨T, 7, none⟩ = some (.int .u8 0)) (hc : w.cell? ⟨C, j + 2, none⟩ = some (.int .u8 m)) :
    Calls Try.prog 58 #[.slice (some ⟨T, 0, none⟩) 1 1, .string typ, .pointer (some ⟨C, j, none⟩), .nilFunc] w fun e w' => e = .returned (.int .u8 (if m = 0 then 2 else 0)) ∧ w = w' := by
  have hR : Hid (Calls Try.prog 65 #[.pointer (some ⟨T, 0, none⟩), .int .u8 m] w fun e w' => e = .returned (.int .u8 (if m = 0 then 2 else 0)) ∧ w = w') := report65 T m hm w h6 h7
  have hN := eql_nilFunc w
  generalize hr : (if m = 0 then (2 : Int) else 0) = r at *
  have hr2 : r = 2 ∨ r = 0 := by subst hr; split <;> simp
  clear hr h6 h7
  rcases hr2 with rfl | rfl
  all_goals
    go_enter Try.func58, Try.ntmps58
    go_wp2
  · go_loop [9, 14] (fun u i => (i = .int .i64 0 ∧ u = .int .u8 0) ∨ (i = .int .i64 1 ∧ u = .int .u8 2)) (fun _ i => 1 - (intOf i).toNat)
    case atStart => exact .inl ⟨rfl, rfl⟩
    case round =>
      rcases hrel with ⟨rfl, rfl⟩ | ⟨rfl, rfl⟩
      · go_wp2_with fail
        refine (Hid.out hR).mono ?_
        rintro e w' ⟨rfl, rfl⟩
        go_wp2
        go_round
        case rel => exact .inr ⟨rfl, rfl⟩
        case measure => simp [intOf]
      · go_wp2
        go_ret
        exact ⟨rfl, rfl⟩
  · go_loop [9, 14] (fun u i => (i = .int .i64 0 ∧ u = .int .u8 0) ∨ (i = .int .i64 1 ∧ u = .int .u8 0)) (fun _ i => 1 - (intOf i).toNat)
    case atStart => exact .inl ⟨rfl, rfl⟩
    case round =>
      rcases hrel with ⟨rfl, rfl⟩ | ⟨rfl, rfl⟩
      · go_wp2_with fail
        refine (Hid.out hR).mono ?_
        rintro e w' ⟨rfl, rfl⟩
        go_wp2
        go_round
        case rel => exact .inr ⟨rfl, rfl⟩
        case measure => simp [intOf]
      · go_wp2
        go_ret
        exact ⟨rfl, rfl⟩
end Go.Proofs.Qxb6608902a
