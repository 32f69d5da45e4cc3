import Derived.Test.Qxb6608695aRows
import Derived.WalkKit
import Derived.WalkSpells
import Derived.WalkLawsBesides
import Derived.Laws.CopyOwn
import Derived.Deep.WholeRow
import Derived.Deep.QuietTactic
import Derived.BigQuiet
import Derived.Maps.AppendAt
import Derived.Great.FillDense
import Derived.Deep.DeepCutAuto
namespace Go.Proofs.Qxb6608695a
open Go.RowKit

theorem Try.info5 : (Try.prog.info? 5).map (fun i => (i.zero, i.size, i.bytes)) = some (some (.int .u8 0), 1, 1) := by kernel_rfl
theorem Try.size5 : (Try.prog.info? 5).map (·.size) = some 1 := by kernel_rfl

theorem q22 : ∀ (w : World) (a : Option Addr) (n c n' c' : Nat), (binOp .eql 22 (.slice a n c) (.slice none n' c')).run Try.prog w = .ok (.bool a.isNone) w := fun w a n c n' c' => Lib.run_eql_slice_nil w _ _ a n c n' c' Try.underlying22

/-- The cells of a row of bytes. -/
def bytesOf (zs : List Int) : List Value := zs.map (Value.int .u8)
theorem length_bytesOf (zs : List Int) : (bytesOf zs).length = zs.length := by simp [bytesOf]
theorem bytesOf_one (zs : List Int) : ∀ u ∈ bytesOf zs, u.oneCell' = true := ints_oneCell .u8 zs
theorem bytesOf_get (zs : List Int) (j : Nat) (u : Value) (h : (bytesOf zs)[j]? = some u) : j < zs.length ∧ u = .int .u8 (zs.getD j 0) := by
  have hj : j < zs.length := by
    have := (List.getElem?_eq_some_iff.1 h).1
    simpa [bytesOf] using this
  refine ⟨hj, ?_⟩
  simp [bytesOf, hj] at h
  simp [hj, h]

theorem make_u8 (len : Nat) (hm : len ≤ 1048576) (W : World) : (Instr.makeSlice 22 (.int .i64 (len : Int)) (.int .i64 (len : Int))).run Try.prog W = .ok (.slice (some ⟨W.heap.size, 0, none⟩) len len) (W.alloc (.cells (madeCells #[.int .u8 0] len) 5)) := by
  obtain ⟨i0, hi, hz0, hz1, hz2⟩ := info_parts Try.info5
  have := run_make (P := Try.prog) W 22 5 i0 (.int .u8 0) Try.underlying22 hi hz0 .i64 .i64 len len (by omega) (by omega) (by rw [hz2]; omega) (by omega)
  simpa [hz1, Value.cells] using this

theorem copy_u8 (x : Addr) (len cap : Nat) (zs : List Int) (w : World) (hl : zs.length = len)
    (hc : ∀ i, i < len → w.cell? (x.add i) = some (.int .u8 (zs.getD i 0))) :
    (Builtin.copy_ #[22, 22] 3 #[.slice (some ⟨w.heap.size, 0, none⟩) len len, .slice (some x) len cap]).run Try.prog (w.alloc (.cells (madeCells #[.int .u8 0] len) 5)) =
      .ok (.int .i64 (len : Int)) (w.alloc (.cells (bytesOf zs).toArray 5)) := by
  have h := run_copy_row (P := Try.prog) (w.alloc (.cells (madeCells #[.int .u8 0] len) 5)) 22 22 3 5 w.heap.size 0 len len x len cap (madeCells #[.int .u8 0] len) 5 (bytesOf zs)
    Try.underlying22 Try.size5 (heap_alloc_new _ _) (by rw [length_bytesOf, hl]; exact (Nat.min_self len).symm)
    (fun j u hu => by
      obtain ⟨hj, rfl⟩ := bytesOf_get zs j u hu
      have := hc j (by omega)
      exact cell_later ((Below.refl _ _).alloc (Nat.le_refl _) _) this)
    (by rw [length_bytesOf, size_madeCells]; omega) (bytesOf_one zs)
  rw [h, World.setRow_alloc_new]
  have e : (madeCells #[Value.int .u8 0] len).toList.take 0 ++ bytesOf zs ++ (madeCells #[Value.int .u8 0] len).toList.drop (0 + (bytesOf zs).length) = bytesOf zs := by
    rw [List.drop_eq_nil_of_le (by rw [length_bytesOf, Array.length_toList, size_madeCells]; omega)]; simp
  rw [e, length_bytesOf, hl]
  rfl

set_option maxHeartbeats 400000 in
theorem clone_nil (w : World) : Calls Try.prog 10 #[.slice none 0 0] w fun e w' => e = .returned (.slice none 0 0) ∧ w' = w := by
  have q := q22
  go_enter Try.func10, Try.ntmps10
  go_wp2
  go_ret
  exact ⟨rfl, rfl⟩

set_option maxHeartbeats 400000 in
theorem clone_some (x : Addr) (len cap : Nat) (zs : List Int) (w : World) (hl : zs.length = len) (hm : len ≤ 1048576)
    (hc : ∀ i, i < len → w.cell? (x.add i) = some (.int .u8 (zs.getD i 0))) :
    Calls Try.prog 10 #[.slice (some x) len cap] w fun e w' => e = .returned (.slice (some ⟨w.heap.size, 0, none⟩) len len) ∧ w' = w.alloc (.cells (bytesOf zs).toArray 5) := by
  have q := q22
  have hmk := make_u8 len hm w
  have hcp := copy_u8 x len cap zs w hl hc
  clear hl hc
  go_enter Try.func10, Try.ntmps10
  go_wp2
  go_ret
  exact ⟨rfl, rfl⟩


theorem addr_add_none (b off i : Nat) : (⟨b, off, none⟩ : Addr).add i = ⟨b, off + i, none⟩ := by
  unfold Addr.add; split <;> simp_all

set_option maxHeartbeats 400000 in
theorem same_zero (a1 a2 : Option Addr) (c1 c2 : Nat) (w : World) :
    Calls Try.prog 13 #[.slice a1 0 c1, .slice a2 0 c2] w fun e w' => e = .returned (.bool true) ∧ ∃ n, w' = w.drewN n := by
  go_enter Try.func13, Try.ntmps13
  go_wp2
  refine wp_loop_rounds 1 ?_; rw [rounds_succ]
  go_wp2
  go_ret
  exact ⟨rfl, 0, rfl⟩

set_option maxHeartbeats 400000 in
theorem same_some (b1 o1 b2 o2 l c1 c2 : Nat) (zs : List Int) (w : World) (hm : l ≤ 4194304) 
    (h1 : ∀ i, i < l → w.cell? ⟨b1, o1 + i, none⟩ = some (.int .u8 (zs.getD i 0)))
    (h2 : ∀ i, i < l → w.cell? ⟨b2, o2 + i, none⟩ = some (.int .u8 (zs.getD i 0))) :
    Calls Try.prog 13 #[.slice (some ⟨b1, o1, none⟩) l c1, .slice (some ⟨b2, o2, none⟩) l c2] w fun e w' => e = .returned (.bool true) ∧ ∃ n, w' = w.drewN n := by
  go_enter Try.func13, Try.ntmps13
  go_wp2
  go_loopw [5] (fun i wr => ∃ k : Nat, k ≤ l ∧ i = .int .i64 k ∧ ∃ n, wr = w.drewN n) (fun i _ => l - (intOf i).toNat)
  case atStart => exact ⟨0, Nat.zero_le _, rfl, 0, rfl⟩
  case round =>
    obtain ⟨k, hk, rfl, n, rfl⟩ := hrel
    by_cases hlt : k < l
    · have g1 := h1 k hlt
      have g2 := h2 k hlt
      have b1 : (0 : Int) ≤ (k : Int) := by omega
      have b2 : (k : Int) < (l : Int) := by omega
      clear h1 h2
      go_wp2
      go_quiet (fail)
      go_wp2
      go_roundw
      case rel => exact ⟨k + 1, by omega, by go_num, n + nq, rfl⟩
      case measure => simp [intOf]; omega
    · go_wp2
      go_ret
      exact ⟨rfl, n, rfl⟩

theorem addr_add_add (x : Addr) (i j : Nat) : (x.add i).add j = x.add (i + j) := by
  unfold Addr.add
  by_cases hi : i = 0
  · simp [hi]
  · by_cases hj : j = 0
    · simp [hj]
    · have : ¬ i + j = 0 := by omega
      simp [hi, hj, Nat.add_assoc]

/-- From the address 'a' on lie the bytes 'zs' (no address is wanted where there are none). -/
def Bd (w : World) (a : Option Addr) (zs : List Int) : Prop := ∀ i, i < zs.length → ∃ x, a = some x ∧ w.cell? (x.add i) = some (.int .u8 (zs.getD i 0))

theorem Bd.later {w w' : World} {a : Option Addr} {zs : List Int} (h : Bd w a zs) (hb : Below w.heap.size w w') : Bd w' a zs := fun i hi => by
  obtain ⟨x, hx, hc⟩ := h i hi
  exact ⟨x, hx, cell_later hb hc⟩

theorem Bd.drop {w : World} {a : Option Addr} {zs : List Int} (h : Bd w a zs) (k : Nat) : Bd w (a.map (·.add k)) (zs.drop k) := fun i hi => by
  simp at hi
  obtain ⟨x, rfl, hc⟩ := h (k + i) (by omega)
  refine ⟨x.add k, rfl, ?_⟩
  rw [addr_add_add, hc]
  simp

theorem Bd.take {w : World} {a : Option Addr} {zs : List Int} (h : Bd w a zs) (k : Nat) : Bd w a (zs.take k) := fun i hi => by
  simp at hi
  obtain ⟨x, hx, hc⟩ := h i (by omega)
  refine ⟨x, hx, ?_⟩
  rw [hc]
  simp [show i < k by omega]

theorem Bd.nil (w : World) (a : Option Addr) : Bd w a [] := fun i hi => by simp at hi

theorem bd_of_own {w : World} {base n c : Nat} {a : Option Addr} {zs : List Int} (h : w.ownsRow base 5 1 (.slice a n c) n (bytesOf zs)) : Bd w a zs ∧ zs.length = n := by
  have hl : zs.length = n := by have := h.1; rw [length_bytesOf] at this; omega
  refine ⟨fun i hi => ?_, hl⟩
  rcases h.2 with ⟨_, h0⟩ | ⟨g, cap, cur, hv, _⟩
  · omega
  · cases hv
    refine ⟨_, rfl, h.cells (g := g) rfl i _ ?_⟩
    simp [bytesOf, hi]

/-- 'zzb1Clone' -/
theorem clone_own (base : Nat) (a : Option Addr) (l c : Nat) (zs : List Int) (w : World) (hz : zs.length = l) (hm : l ≤ 1048576) (hb : base ≤ w.heap.size) (hc0 : a = none → c = 0) (h : Bd w a zs) :
    Calls Try.prog 10 #[.slice a l c] w fun e w' => ∃ a', e = .returned (.slice a' l l) ∧ w'.ownsRow base 5 1 (.slice a' l l) l (bytesOf zs) ∧ Below w.heap.size w w' ∧ (∀ k, (Value.slice a' l l).ownBlock = some k → w.heap.size ≤ k) := by
  cases a with
  | none =>
    have h0 : l = 0 := by
      refine Nat.eq_zero_of_not_pos fun hp => ?_
      obtain ⟨x, hx, _⟩ := h 0 (by omega)
      cases hx
    subst h0
    have : zs = [] := List.eq_nil_of_length_eq_zero hz
    subst this
    rw [hc0 rfl]
    refine (clone_nil w).mono ?_
    rintro e w' ⟨rfl, rfl⟩
    exact ⟨none, rfl, World.ownsRow_nil _ _ _ _, Below.refl _ _, fun k hk => by cases hk⟩
  | some x =>
    refine (clone_some x l c zs w hz hm (fun i hi => by obtain ⟨y, hy, hc⟩ := h i (by omega); cases hy; exact hc)).mono ?_
    rintro e w' ⟨rfl, rfl⟩
    refine ⟨_, rfl, ⟨by rw [length_bytesOf]; omega, .inr ⟨_, _, _, rfl, hb, heap_alloc_new w _, Nat.le_refl _, by unfold maxLen; omega, by simp [length_bytesOf, hz], ?_⟩⟩, (Below.refl _ _).alloc (Nat.le_refl _) _, fun k hk => by cases hk; exact Nat.le_refl _⟩
    rw [List.take_of_length_le (by simp [length_bytesOf, hz])]

theorem grownBy_trans {w w1 w2 : World} {r1 r2 : Option Nat} (h1 : w.grownBy w1 r1) (h2 : w1.grownBy w2 r2) (hr : ∀ k, r2 = some k → r1 = some k ∨ w.heap.size ≤ k) : w.grownBy w2 r1 :=
  ⟨h2.os.trans h1.os, h2.tape.trans h1.tape, h2.output.trans h1.output, Nat.le_trans h1.size h2.size, fun k hk hne => by
    rw [h2.block k (Nat.lt_of_lt_of_le hk h1.size) (fun e => by rcases hr k e.symm with h | h; exact hne h.symm; omega), h1.block k hk hne]⟩

theorem box_cells (w : World) (xs ys : List Value) (T : TypeId) (j : Nat) (u : Value) (h : ys[j]? = some u) : (w.alloc (.cells (xs ++ ys).toArray T)).cell? ((⟨w.heap.size, xs.length, none⟩ : Addr).add j) = some u := by
  rw [addr_add_none, cell_of_row _ _ _ _ _ _ (heap_alloc_new w _)]
  rw [List.getElem?_toArray, List.getElem?_append_right (by omega)]
  simp [h]

theorem box_cells0 (w : World) (xs ys : List Value) (T : TypeId) (j : Nat) (u : Value) (h : xs[j]? = some u) : (w.alloc (.cells (xs ++ ys).toArray T)).cell? ((⟨w.heap.size, 0, none⟩ : Addr).add j) = some u := by
  rw [addr_add_none, cell_of_row _ _ _ _ _ _ (heap_alloc_new w _)]
  have hj := (List.getElem?_eq_some_iff.1 h).1
  simp [List.getElem?_append_left hj, h]

theorem box_later (base n : Nat) (v : Value) (xs : List Value) (A B : List Int) (hA : A.length = 20) (w w1 : World) (hown : w.ownsRow base 5 1 v n xs)
    (hg : (w.alloc (.cells (bytesOf A ++ bytesOf B).toArray 34)).grownBy w1 v.ownBlock) (j : Nat) (u : Value) (h : (bytesOf B)[j]? = some u) : w1.cell? ((⟨w.heap.size, 20, none⟩ : Addr).add j) = some u := by
  have hc := box_cells w (bytesOf A) (bytesOf B) 34 j u h
  rw [length_bytesOf, hA] at hc
  refine hg.cell hc ?_
  rw [addr_add_none]
  intro e
  have := (hown.lt _ e.symm).2
  simp at this

set_option maxHeartbeats 400000 in
theorem append_av (base n : Nat) (v : Value) (xs : List Value) (A B : List Int) (hA : A.length = 20) (hB : B.length = 32) (w : World) (hown : w.ownsRow base 5 1 v n xs) (hn : n ≤ 4194304) (hbase : base ≤ w.heap.size) :
    Calls Try.prog 26 #[v, .agg (bytesOf A ++ bytesOf B).toArray] w fun e w' => ∃ v', e = .returned (.tuple #[v', .nilIface]) ∧ w'.ownsRow base 5 1 v' (n + 20 + 32) (xs ++ bytesOf A ++ bytesOf B) ∧ w.grownBy w' v.ownBlock ∧ ∀ k, v'.ownBlock = some k → v.ownBlock = some k ∨ w.heap.size ≤ k := by
  obtain ⟨i0, hi, hz0, hz1, hz2⟩ := info_parts Try.info5
  have lA : (bytesOf A).length = 20 * 1 := by rw [length_bytesOf, hA]
  have lB : (bytesOf B).length = 32 * 1 := by rw [length_bytesOf, hB]
  have m1 : n + 20 ≤ maxLen := by unfold maxLen; omega
  have m2 : n + 20 + 32 ≤ maxLen := by unfold maxLen; omega
  have m3 : (n + 20) * 1 ≤ 140737488355328 := by omega
  have m4 : (n + 20 + 32) * 1 ≤ 140737488355328 := by omega
  have s1 : base ≤ (w.alloc (.cells (bytesOf A ++ bytesOf B).toArray 34)).heap.size := by simp; omega
  go_enter Try.func26, Try.ntmps26
  go_wp2_with (first
    | (at_builtin; refine wpList_append_own_at _ rfl (.tmp 6) (.tmp 8) 22 rfl base 5 i0 (.int .u8 0) 1 1 Try.underlying22 hi hz0 hz1 hz2 rfl (by decide) v n xs rfl (hown.alloc _) ⟨w.heap.size, 0, none⟩ 20 20 (bytesOf A) rfl lA (box_cells0 w _ _ _) (bytesOf_one A) m1 m3 s1 ?_; intro v1 w1 hown1 hg1 _ hat1)
    | (at_builtin; refine wpList_append_own_at _ rfl (.tmp 10) (.tmp 12) 22 rfl base 5 i0 (.int .u8 0) 1 1 Try.underlying22 hi hz0 hz1 hz2 rfl (by decide) v1 (n + 20) (xs ++ bytesOf A) rfl hown1 ⟨w.heap.size, 20, none⟩ 32 32 (bytesOf B) rfl lB (box_later base n v xs A B hA w w1 hown hg1) (bytesOf_one B) m2 m4 (Nat.le_trans s1 hg1.size) ?_; intro v2 w2 hown2 hg2 _ hat2))
  go_ret2
  refine ⟨v2, rfl, hown2, ?_, ?_⟩
  · refine grownBy_trans (w.grownBy_alloc _ v.ownBlock) (grownBy_trans hg1 hg2 ?_) ?_
    · intro k hk
      rcases hat1 with h | h
      · exact .inl (h ▸ hk)
      · rw [h] at hk; cases hk; exact .inr (Nat.le_refl _)
    · intro k hk; exact .inl hk
  · intro k hk
    have z1 := hg1.size
    simp at z1
    rcases hat2 with h | h
    · rw [h] at hk
      rcases hat1 with h' | h'
      · exact .inl (h' ▸ hk)
      · rw [h'] at hk; cases hk; exact .inr (by simp)
    · rw [h] at hk; cases hk; exact .inr (by omega)

theorem Try.size34 : (Try.prog.info? 34).map (·.size) = some 52 := by kernel_rfl

set_option maxHeartbeats 400000 in
theorem append_av11 (base n : Nat) (v : Value) (xs : List Value) (A B : List Int) (hA : A.length = 20) (hB : B.length = 32) (w : World) (hown : w.ownsRow base 5 1 v n xs) (hn : n ≤ 4194304) (hbase : base ≤ w.heap.size) :
    Calls Try.prog 11 #[v, .agg (bytesOf A ++ bytesOf B).toArray] w fun e w' => ∃ v', e = .returned (.tuple #[v', .nilIface]) ∧ w'.ownsRow base 5 1 v' (n + 20 + 32) (xs ++ bytesOf A ++ bytesOf B) ∧ w.grownBy w' v.ownBlock ∧ ∀ k, v'.ownBlock = some k → v.ownBlock = some k ∨ w.heap.size ≤ k := by
  have hi : (Try.prog.info? 34).map (·.size) = some (bytesOf A ++ bytesOf B).toArray.size := by rw [Try.size34]; simp [length_bytesOf, hA, hB]
  have hC : Hid (∀ (w : World) (hown : w.ownsRow base 5 1 v n xs) (hbase : base ≤ w.heap.size), Calls Try.prog 26 #[v, .agg (bytesOf A ++ bytesOf B).toArray] w fun e w' => ∃ v', e = .returned (.tuple #[v', .nilIface]) ∧ w'.ownsRow base 5 1 v' (n + 20 + 32) (xs ++ bytesOf A ++ bytesOf B) ∧ w.grownBy w' v.ownBlock ∧ ∀ k, v'.ownBlock = some k → v.ownBlock = some k ∨ w.heap.size ≤ k) :=
    fun w hown hbase => append_av base n v xs A B hA hB w hown hn hbase
  generalize hG : (bytesOf A ++ bytesOf B).toArray = G at *
  clear hG
  go_enter Try.func11, Try.ntmps11
  go_wp2_with (first
    | (refine wpList_load_row rfl 34 (.tmp 3) rfl w.heap.size rfl 34 G (0, 0) _ (heap_alloc_new w _) Try.underlying34 rfl hi ?_))
  refine (hC.out _ (hown.alloc _) (by simp; omega)).mono ?_
  rintro e w1 ⟨v', rfl, hown1, hg1, hat1⟩
  go_wp2
  go_ret2
  refine ⟨v', rfl, hown1, grownBy_trans (w.grownBy_alloc _ v.ownBlock) hg1 (fun k hk => .inl hk), fun k hk => ?_⟩
  rcases hat1 k hk with h | h
  · exact .inl h
  · exact .inr (by simp at h; omega)

set_option maxHeartbeats 400000 in
theorem bytes17 (a : Option Addr) (l c : Nat) (k : Int) (G H : Array Value) (w : World) (hl : l ≤ 9223372036854775807) :
    Calls Try.prog 17 #[.slice a l c, .int .i64 k, .agg G, .agg H] w fun e w' => e = .returned (.bool (decide (l ≤ 1048576))) ∧ w' = (w.alloc (.cells G 23)).alloc (.cells H 24) := by
  by_cases h : l ≤ 1048576
  · have e : decide (l ≤ 1048576) = true := by simpa using h
    rw [e]
    clear e
    go_enter Try.func17, Try.ntmps17
    go_wp2
    go_ret
    exact ⟨rfl, rfl⟩
  · have e : decide (l ≤ 1048576) = false := by simpa using h
    rw [e]
    clear e
    go_enter Try.func17, Try.ntmps17
    go_wp2
    go_ret
    exact ⟨rfl, rfl⟩
theorem Try.size23 : (Try.prog.info? 23).map (·.size) = some 20 := by kernel_rfl
theorem Try.size24 : (Try.prog.info? 24).map (·.size) = some 32 := by kernel_rfl
theorem own_later {w w' : World} {base n : Nat} {v : Value} {xs : List Value} (h : w.ownsRow base 5 1 v n xs) (hb : Below w.heap.size w w') : w'.ownsRow base 5 1 v n xs := by
  refine h.kept (row := none) ⟨hb.os, hb.tape, hb.output, hb.size, fun k hk _ => hb.block k hk⟩ ?_
  cases v.ownBlock <;> simp

theorem own_nil {w : World} {base l : Nat} {a : Option Addr} {xs : List Value} (h : w.ownsRow base 5 1 (.slice a l l) l xs) : a = none → l = 0 := by
  rintro rfl
  rcases h.2 with ⟨_, h0⟩ | ⟨g, cap, cur, hv, _⟩
  · exact h0
  · cases hv

theorem built34_fill (parts : List (Nat × Value)) : Try.prog.built 34 parts = Instr.fill (fun i => (#[(0, 20), (20, 32)] : Array (Nat × Nat))[i]?) (List.replicate 52 (Value.int .u8 0)).toArray parts := by kernel_rfl

theorem built34 (GA GB : Array Value) (hA : GA.size = 20) (hB : GB.size = 32) : Try.prog.built 34 [(0, .agg GA), (1, .agg GB)] = some (GA ++ GB) := by
  rw [built34_fill]
  obtain ⟨s1, g1⟩ := Great.foldl_set 0 GA.toList 0 (List.replicate 52 (Value.int .u8 0)).toArray
  obtain ⟨s2, g2⟩ := Great.foldl_set 20 GB.toList 0 ((GA.toList.zipIdx 0).foldl (fun cs (x : Value × Nat) => cs.setIfInBounds (0 + x.2) x.1) (List.replicate 52 (Value.int .u8 0)).toArray)
  have z : (List.replicate 52 (Value.int .u8 0)).toArray.size = 52 := rfl
  generalize hZ : (List.replicate 52 (Value.int .u8 0)).toArray = Z at *
  have e1 : GA.zipIdx.foldl (fun cs (x : Value × Nat) => cs.setIfInBounds (0 + x.2) x.1) Z = (GA.toList.zipIdx 0).foldl (fun cs (x : Value × Nat) => cs.setIfInBounds (0 + x.2) x.1) Z := by
    rw [← Array.foldl_toList]; simp
  generalize hF : (GA.toList.zipIdx 0).foldl (fun cs (x : Value × Nat) => cs.setIfInBounds (0 + x.2) x.1) Z = F at *
  have e2 : GB.zipIdx.foldl (fun cs (x : Value × Nat) => cs.setIfInBounds (20 + x.2) x.1) F = (GB.toList.zipIdx 0).foldl (fun cs (x : Value × Nat) => cs.setIfInBounds (20 + x.2) x.1) F := by
    rw [← Array.foldl_toList]; simp
  have f1 : ∀ rest, Instr.fill (fun i => (#[(0, 20), (20, 32)] : Array (Nat × Nat))[i]?) Z ((0, .agg GA) :: rest) = Instr.fill (fun i => (#[(0, 20), (20, 32)] : Array (Nat × Nat))[i]?) F rest := by
    intro rest
    rw [← e1]
    simp [Instr.fill, Value.cells, hA, z]
  have f2 : Instr.fill (fun i => (#[(0, 20), (20, 32)] : Array (Nat × Nat))[i]?) F [(1, .agg GB)] = some ((GB.toList.zipIdx 0).foldl (fun cs (x : Value × Nat) => cs.setIfInBounds (20 + x.2) x.1) F) := by
    rw [← e2]
    simp [Instr.fill, Value.cells, hB, s1, z]
  rw [f1, f2]
  congr 1
  apply Array.ext_getElem?
  intro i
  rw [g2, g1, Array.getElem?_append]
  simp only [Array.length_toList, Array.getElem?_toList, hA, hB, s1, z]
  by_cases h1 : i < 20
  · rw [if_neg (by omega), if_pos (by omega), if_pos h1]
    simp
  · rw [if_neg h1]
    by_cases h2 : i < 52
    · rw [if_pos (by omega)]
    · rw [if_neg (by omega), if_neg (by omega)]
      rw [Array.getElem?_eq_none (by omega), Array.getElem?_eq_none (by omega)]

theorem wpList_build34 {ops : Array Oper} {rest : List Oper} {o : Oper} {a : Act} {w : World} {Q : Exit → Act → World → Prop} (hg : o.guard = none) (x y : Operand) (ho : o.op = .build 34 #[(0, x), (1, y)])
    (GA GB : Array Value) (hx : a.eval x = .agg GA) (hy : a.eval y = .agg GB) (hA : GA.size = 20) (hB : GB.size = 32)
    (h : wpList Try.prog ops Q rest (a.put o.dst (.agg (GA ++ GB))) w) : wpList Try.prog ops Q (o :: rest) a w := by
  have e : (Array.map (fun (p : Nat × Operand) => (p.1, a.eval p.2)) #[(0, x), (1, y)]).toList = [(0, .agg GA), (1, .agg GB)] := by simp [hx, hy]
  refine wpList_build hg 34 #[(0, x), (1, y)] ho ?_ ?_
  · show (Try.prog.built 34 (Array.map (fun (p : Nat × Operand) => (p.1, a.eval p.2)) #[(0, x), (1, y)]).toList).isSome = true
    rw [e, built34 GA GB hA hB]; rfl
  · show wpList Try.prog ops Q rest (a.put o.dst (.agg ((Try.prog.built 34 (Array.map (fun (p : Nat × Operand) => (p.1, a.eval p.2)) #[(0, x), (1, y)]).toList).getD #[]))) w
    rw [e, built34 GA GB hA hB]; exact h

theorem wpList_store34 {ops : Array Oper} {rest : List Oper} {o : Oper} {a : Act} {w : World} {Q : Exit → Act → World → Prop} (hgd : o.guard = none) (x y : Operand) (ho : o.op = .store 34 x y)
    (cells old : Array Value) (hx : a.eval x = .pointer (some ⟨w.heap.size, 0, none⟩)) (hy : a.eval y = .agg cells) (hc : cells.size = 52) (hold : old.size = 52) (h1 : cells.all (·.oneCell') = true)
    (h : wpList Try.prog ops Q rest (a.put o.dst undef) (w.alloc (.cells cells 34))) : wpList Try.prog ops Q (o :: rest) a (w.alloc (.cells old 34)) := by
  refine wpList_store_row hgd 34 x y ho w.heap.size cells hx hy 34 old (heap_alloc_new w _) (by rw [Try.size34, hc]) (by rw [hold, hc]) h1 ?_
  rw [World.setRow_alloc_new]
  exact h

/-- The contract of 'ZZappendAvailability' -/
def AvSays (G : Array Value) (news : List Value) : Prop := ∀ (base n : Nat) (v : Value) (xs : List Value) (w : World), w.ownsRow base 5 1 v n xs → n ≤ 4194304 → base ≤ w.heap.size →
    Calls Try.prog 11 #[v, .agg G] w fun e w' => ∃ g c', e = .returned (.tuple #[.slice (some ⟨g, 0, none⟩) (n + 52) c', .nilIface]) ∧ w'.ownsRow base 5 1 (.slice (some ⟨g, 0, none⟩) (n + 52) c') (n + 52) (xs ++ news) ∧ w.grownBy w' v.ownBlock ∧ (v.ownBlock = some g ∨ w.heap.size ≤ g)

theorem own_form {w : World} {base n : Nat} {v : Value} {xs : List Value} (h : w.ownsRow base 5 1 v n xs) (hn : 0 < n) : ∃ g c, v = .slice (some ⟨g, 0, none⟩) n c := by
  rcases h.2 with ⟨h1, h2⟩ | ⟨g, cap, cur, h1, _⟩
  · omega
  · exact ⟨_, _, h1⟩

theorem av_says (A B : List Int) (hA : A.length = 20) (hB : B.length = 32) : AvSays ((bytesOf A).toArray ++ (bytesOf B).toArray) (bytesOf A ++ bytesOf B) := by
  intro base n v xs w hown hn hbase
  have e : (bytesOf A).toArray ++ (bytesOf B).toArray = (bytesOf A ++ bytesOf B).toArray := by simp
  rw [e]
  refine (append_av11 base n v xs A B hA hB w hown hn hbase).mono ?_
  rintro e w' ⟨v', rfl, h1, h2, h3⟩
  rw [List.append_assoc] at h1
  obtain ⟨g, c', rfl⟩ := own_form h1 (by omega)
  exact ⟨g, c', rfl, h1, h2, h3 g rfl⟩
end Go.Proofs.Qxb6608695a
