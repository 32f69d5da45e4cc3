import Derived.Test.Qxb6608902aBlk
import Derived.RangeFuncNested
import Derived.RangeFuncBound
import Derived.RangeFuncCalls
import Derived.RangeFuncLeaves
import Derived.Shelf.Abstract
import Derived.Shelf.RegionOpen
import Derived.OwnWalkIn
import Derived.TacticsInMore
import Derived.LoopNIn
import Derived.LoopIn
namespace Go.Proofs.Qxb6608902a
open Go.RowKit Go.Shelf
attribute [local go_sem] Oper.semAt_some

/-- What the iterator of 'open' reads. -/
def ItOK (Bn G o C N : Nat) (ms : Nat → Int) (gp : Option Addr) (hg ex te : Bool) (W : World) : Prop :=
  W.cell? ⟨Bn, 0, none⟩ = some (.pointer (some ⟨G, o, none⟩)) ∧ W.cell? ⟨G, o + 2, none⟩ = some (.slice (some ⟨C, 0, none⟩) N N) ∧ W.cell? ⟨G, o + 4, none⟩ = some (.pointer gp) ∧
    (∀ j, j < N → W.cell? ⟨C, j * 5 + 2, none⟩ = some (.int .u8 (ms j))) ∧ GrantAt W gp hg ex te

theorem ItOK.keep {Bn G o C N : Nat} {ms : Nat → Int} {gp : Option Addr} {hg ex te : Bool} {W W' : World} (h : ItOK Bn G o C N ms gp hg ex te W) (hk : ∀ p v, W.cell? p = some v → W'.cell? p = some v) : ItOK Bn G o C N ms gp hg ex te W' := by
  obtain ⟨h1, h2, h3, h4, h5⟩ := h
  refine ⟨hk _ _ h1, hk _ _ h2, hk _ _ h3, fun j hj => hk _ _ (h4 j hj), ?_⟩
  rcases h5 with h | ⟨B, e1, e2, e3, e4⟩
  · exact .inl h
  · exact .inr ⟨B, e1, e2, hk _ _ e3, hk _ _ e4⟩

/-- The containers that are open. -/
def openIdx (ms : Nat → Int) (hg ex te : Bool) (k : Nat) : List Nat := (List.range k).filter fun j => !blkB (ms j) hg ex te
theorem openIdx_succ (ms : Nat → Int) (hg ex te : Bool) (k : Nat) : openIdx ms hg ex te (k + 1) = openIdx ms hg ex te k ++ (if blkB (ms k) hg ex te then [] else [k]) := by
  unfold openIdx
  rw [List.range_succ, List.filter_append]
  cases h : blkB (ms k) hg ex te <;> simp [h]
theorem openIdx_length (ms : Nat → Int) (hg ex te : Bool) (k : Nat) : (openIdx ms hg ex te k).length ≤ k := by
  unfold openIdx
  have := List.length_filter_le (fun j => !blkB (ms j) hg ex te) (List.range k)
  simpa using this

set_option maxRecDepth 100000 in
set_option maxHeartbeats 1000000 in
theorem open60 (n : Nat) (hn : 2 ≤ n) (l Bn G o C N : Nat) (hN : N ≤ 1048576) (ms : Nat → Int) (gp : Option Addr) (hg ex te : Bool) (J Jx : List { j : Nat // j < N } → World → Prop)
    (hY : ∀ pre x W, J pre W → pre.length < N → YieldAt Fence.wide (n - 1) Try.prog l #[.pointer (some ⟨C, x.1 * 5, none⟩)] W fun e W' =>
      (e = .returned (.bool true) ∧ J (pre ++ [x]) W' ∧ (ItOK Bn G o C N ms gp hg ex te W → ItOK Bn G o C N ms gp hg ex te W')) ∨ (e = .returned (.bool false) ∧ Jx (pre ++ [x]) W'))
    (W : World) (hok : ItOK Bn G o C N ms gp hg ex te W) (h0 : J [] W) :
    CallsIn Fence.wide n Try.prog 60 #[.func (.yield l) #[] #[], .pointer (some ⟨Bn, 0, none⟩)] W fun e W' => (∃ v, e = .returned v) ∧
      ((∃ xs : List { j : Nat // j < N }, xs.map (·.1) = openIdx ms hg ex te N ∧ J xs W') ∨ (∃ pre, True ∧ Jx pre W')) := by
  refine callsIn_of_wp Try.func60 rfl trivial ?_ rfl
  simp only [Try.ntmps60, List.size_toArray, List.length_cons, List.length_nil, Nat.reduceAdd, Nat.reduceSub, Array.replicate_succ, Array.replicate_zero, List.push_toArray, List.append_toArray, List.nil_append, List.cons_append]
  have r1 := hok.1
  have r2 := hok.2.1
  gi_wp2
  clear r1 r2
  gi_loopw [10] (fun i wr => ∃ (k : Nat) (pre : List { j : Nat // j < N }), k ≤ N ∧ i = .int .i64 k ∧ pre.map (·.1) = openIdx ms hg ex te k ∧ J pre wr ∧ ItOK Bn G o C N ms gp hg ex te wr)
    (fun i _ => N - (intOf i).toNat)
  case atStart => exact ⟨0, [], Nat.zero_le _, rfl, rfl, h0, hok⟩
  case round =>
    obtain ⟨k, pre, hk, rfl, hpre, hJs, hokr⟩ := hrel
    clear hok h0
    by_cases hlt : k < N
    · obtain ⟨fn, tmps, assign, body, hy, hR⟩ := hY pre ⟨k, hlt⟩ wr hJs (by
        have := congrArg List.length hpre
        have h2 := openIdx_length ms hg ex te k
        simp at this; omega)
      have r1 := hokr.1
      have r2 := hokr.2.1
      have b1 : (0 : Int) ≤ (k : Int) := by omega
      have b2 : (k : Int) < (N : Int) := by omega
      have hB := blocked61 G o C (k * 5) (ms k) gp hg ex te wr (hokr.2.2.2.1 k hlt) hokr.2.2.1 hokr.2.2.2.2
      have HP : Hid _ := hpre
      have HO : Hid _ := hokr
      clear hpre hokr hY
      cases hblk : blkB (ms k) hg ex te with
      | true =>
        rw [hblk] at hB
        have HB : Hid _ := hB
        clear hB
        gi_wp2_with fail
        refine ⟨trivial, fun _ => by omega, ?_⟩
        refine (callsIn_wide.2 (Hid.out HB)).mono ?_
        rintro e w' ⟨rfl, rfl⟩
        gi_wp2
        refine ⟨fun _ h => (by cases h), ?_⟩
        gi_wp2
        go_roundw
        case rel => exact ⟨k + 1, pre, by omega, by go_num, by rw [openIdx_succ, hblk, HP.out]; simp, hJs, HO.out⟩
        case measure => simp [intOf]; omega
      | false =>
        rw [hblk] at hB
        have HB : Hid _ := hB
        clear hB
        gi_wp2_with fail
        refine ⟨trivial, fun _ => by omega, ?_⟩
        refine (callsIn_wide.2 (Hid.out HB)).mono ?_
        rintro e w' ⟨rfl, rfl⟩
        gi_wp2
        refine ⟨fun _ => by omega, ?_⟩
        refine hR.mono ?_
        rintro e W3 (⟨rfl, hJ3, hk3⟩ | ⟨rfl, hJx3⟩)
        · gi_wp2
          go_roundw
          case rel => exact ⟨k + 1, pre ++ [⟨k, hlt⟩], by omega, by go_num, by rw [openIdx_succ, hblk, List.map_append, HP.out]; simp, hJ3, hk3 HO.out⟩
          case measure => simp [intOf]; omega
        · gi_wp2
          refine bodyPost_ret (results_none rfl _ _ _) rfl ?_
          exact ⟨⟨_, rfl⟩, .inr ⟨_, trivial, hJx3⟩⟩
    · obtain rfl : k = N := by omega
      gi_wp2
      go_end0
      exact ⟨⟨_, rfl⟩, .inl ⟨pre, hpre, hJs⟩⟩

theorem open_stops (n : Nat) (hn : 2 ≤ n) (Bn G o C N : Nat) (hN : N ≤ 1048576) (ms : Nat → Int) (gp : Option Addr) (hg ex te : Bool) (w : World) (hok : ItOK Bn G o C N ms gp hg ex te w) :
    SeqStopsK Fence.wide n Try.prog 60 #[.pointer (some ⟨Bn, 0, none⟩)] (fun x : { j : Nat // j < N } => #[.pointer (some ⟨C, x.1 * 5, none⟩)]) (fun A B => ItOK Bn G o C N ms gp hg ex te A → ItOK Bn G o C N ms gp hg ex te B)
      (fun xs => xs.map (·.1) = openIdx ms hg ex te N) (fun _ => True) N w :=
  fun l J Jx W hb _ _ hY h0 => open60 n hn l Bn G o C N hN ms gp hg ex te J Jx hY W (hok.keep fun _ _ hp => cell_later hb hp) h0

set_option maxHeartbeats 400000 in
theorem open52 (p : Option Addr) (w : World) : Calls Try.prog 52 #[.pointer p] w fun e w' => e = .returned (.func (.func 60) #[] #[.pointer (some ⟨w.heap.size, 0, none⟩)]) ∧ w' = w.alloc (.cells #[.pointer p] 59) := by
  go_enter Try.func52, Try.ntmps52
  go_wp2
  go_ret
  exact ⟨rfl, rfl⟩
end Go.Proofs.Qxb6608902a
