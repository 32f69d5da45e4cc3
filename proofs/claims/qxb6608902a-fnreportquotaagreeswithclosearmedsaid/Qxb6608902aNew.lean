import Derived.Test.Qxb6608902aCArm
import Derived.Test.Qxb6608902aQuota
namespace Go.Proofs.Qxb6608902a
open Go.RowKit

def grCells (ex te : Bool) : Array Value := #[.int .u64 0, .pointer none, .bool false, .bool te, .int .i64 0, .int .i64 0, .int .u64 0, .bool false, .bool ex, .int .i64 0]
def trgCells (typ : ByteArray) (on off : Int) : Array Value := #[.string typ, .int .i64 0, .int .i64 0, .int .u64 0, .int .u32 0, .bool false, .int .u8 on, .int .u8 off]

set_option maxHeartbeats 1000000 in
theorem new32 (a : Int) (b : Bool) (m up dn : Int) (w : World) :
    Calls Try.prog 32 #[.int .u32 a, .bool b, .int .u8 m, .int .u64 up, .int .u64 dn] w fun e w' => e = .returned (.agg #[.int .u32 a, .bool b, .int .u8 m, .int .u64 up, .int .u64 dn]) ∧ w' = w.alloc (.cells #[.int .u32 a, .bool b, .int .u8 m, .int .u64 up, .int .u64 dn] 82) := by
  go_enter Try.func32, Try.ntmps32
  go_wp2
  exact bodyPost_ret (v := .agg #[.int .u32 a, .bool b, .int .u8 m, .int .u64 up, .int .u64 dn]) (by simp [results, Try.results32, go_sem]) rfl ⟨rfl, rfl⟩
set_option maxHeartbeats 1000000 in
theorem new33 (ex te : Bool) (w : World) :
    Calls Try.prog 33 #[.bool ex, .bool te] w fun e w' => e = .returned (.pointer (some ⟨w.heap.size, 0, none⟩)) ∧ w' = w.alloc (.cells (grCells ex te) 134) := by
  go_enter Try.func33, Try.ntmps33
  go_wp2
  go_ret
  exact ⟨rfl, rfl⟩
set_option maxHeartbeats 1000000 in
theorem new34 (id : Int) (ca : Option Addr) (cl cc : Nat) (ta : Option Addr) (tl tc : Nat) (gp : Option Addr) (w : World) :
    Calls Try.prog 34 #[.int .u32 id, .slice ca cl cc, .slice ta tl tc, .pointer gp] w fun e w' => e = .returned (.agg #[.int .u32 id, .slice none 0 0, .slice ca cl cc, .slice ta tl tc, .pointer gp]) ∧ w' = w.alloc (.cells #[.int .u32 id, .slice none 0 0, .slice ca cl cc, .slice ta tl tc, .pointer gp] 89) := by
  go_enter Try.func34, Try.ntmps34
  go_wp2
  exact bodyPost_ret (v := .agg #[.int .u32 id, .slice none 0 0, .slice ca cl cc, .slice ta tl tc, .pointer gp]) (by simp [results, Try.results34, go_sem]) rfl ⟨rfl, rfl⟩
set_option maxHeartbeats 1000000 in
theorem new36 (a : Int) (b : Bool) (m gid cl : Int) (typ : ByteArray) (r d up dn : Int) (w : World) :
    Calls Try.prog 36 #[.int .u32 a, .bool b, .int .u8 m, .int .u32 gid, .int .i64 cl, .string typ, .int .u8 r, .int .i64 d, .int .u64 up, .int .u64 dn] w fun e w' => e = .returned (.agg (recCells a b m gid cl typ r d up dn).toArray) ∧ w' = w.alloc (.cells (recCells a b m gid cl typ r d up dn).toArray 97) := by
  go_enter Try.func36, Try.ntmps36
  go_wp2
  exact bodyPost_ret (v := .agg (recCells a b m gid cl typ r d up dn).toArray) (by simp [results, Try.results36, go_sem, recCells]) rfl ⟨rfl, rfl⟩
set_option maxHeartbeats 1000000 in
theorem new37 (ga : Option Addr) (gl gc : Nat) (ta : Option Addr) (tl tc : Nat) (cl : Int) (ra : Option Addr) (rl rc : Nat) (w : World) :
    Calls Try.prog 37 #[.slice ga gl gc, .slice ta tl tc, .int .i64 cl, .slice ra rl rc] w fun e w' => e = .returned (.pointer (some ⟨w.heap.size, 0, none⟩)) ∧ w' = w.alloc (.cells (sess (.slice ga gl gc) (.slice ta tl tc) cl (.slice ra rl rc)) 116) := by
  go_enter Try.func37, Try.ntmps37
  go_wp2
  go_ret
  exact ⟨rfl, rfl⟩
set_option maxHeartbeats 1000000 in
theorem new39 (im : Bool) (ta : Option Addr) (tl tc : Nat) (aa : Option Addr) (al ac : Nat) (w : World) :
    Calls Try.prog 39 #[.bool im, .slice ta tl tc, .slice aa al ac] w fun e w' => e = .returned (.pointer (some ⟨w.heap.size, 0, none⟩)) ∧ w' = w.alloc (.cells #[.bool im, .slice ta tl tc, .slice aa al ac] 140) := by
  go_enter Try.func39, Try.ntmps39
  go_wp2
  go_ret
  exact ⟨rfl, rfl⟩
set_option maxHeartbeats 1000000 in
theorem new51 (typ : ByteArray) (on off : Int) (w : World) :
    Calls Try.prog 51 #[.string typ, .int .u8 on, .int .u8 off] w fun e w' => e = .returned (.agg (trgCells typ on off)) ∧ w' = w.alloc (.cells (trgCells typ on off) 137) := by
  go_enter Try.func51, Try.ntmps51
  go_wp2
  exact bodyPost_ret (v := .agg (trgCells typ on off)) (by simp [results, Try.results51, go_sem, trgCells]) rfl ⟨rfl, rfl⟩
set_option maxHeartbeats 1000000 in
theorem get45 (G o : Nat) (ca : Option Addr) (cl cc : Nat) (w : World) (h : w.cell? ⟨G, o + 2, none⟩ = some (.slice ca cl cc)) :
    Calls Try.prog 45 #[.pointer (some ⟨G, o, none⟩)] w fun e w' => e = .returned (.slice ca cl cc) ∧ w = w' := by
  go_enter Try.func45, Try.ntmps45
  go_wp2
  go_ret
  exact ⟨rfl, rfl⟩
end Go.Proofs.Qxb6608902a
