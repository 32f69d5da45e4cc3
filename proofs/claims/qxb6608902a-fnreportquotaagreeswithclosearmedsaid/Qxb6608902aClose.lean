import Derived.Test.Qxb6608902aGrow
import Derived.Deep.AppendLies
import Derived.Test.Qxb6608902aLast
namespace Go.Proofs.Qxb6608902a
open Go.RowKit

/-- w' is w with new blocks, and with writes to the blocks of R alone. -/
structure Turn (R : Nat → Prop) (w w' : World) : Prop where
  os : w'.os = w.os
  tape : w'.tape = w.tape
  output : w'.output = w.output
  size : w.heap.size ≤ w'.heap.size
  block : ∀ k, k < w.heap.size → ¬ R k → w'.heap[k]? = w.heap[k]?

theorem Turn.refl (R : Nat → Prop) (w : World) : Turn R w w := ⟨rfl, rfl, rfl, Nat.le_refl _, fun _ _ _ => rfl⟩
theorem Turn.trans {R R' : Nat → Prop} {w w1 w2 : World} (h : Turn R w w1) (h' : Turn R' w1 w2) (hr : ∀ k, k < w.heap.size → R' k → R k) : Turn R w w2 :=
  ⟨h'.os.trans h.os, h'.tape.trans h.tape, h'.output.trans h.output, Nat.le_trans h.size h'.size, fun k hk hn => (h'.block k (Nat.lt_of_lt_of_le hk h.size) (fun e => hn (hr k hk e))).trans (h.block k hk hn)⟩
theorem Turn.mono {R R' : Nat → Prop} {w w' : World} (h : Turn R w w') (hr : ∀ k, k < w.heap.size → R k → R' k) : Turn R' w w' :=
  ⟨h.os, h.tape, h.output, h.size, fun k hk hn => h.block k hk (fun e => hn (hr k hk e))⟩
theorem Turn.ofBelow {R : Nat → Prop} {w w' : World} (h : Below w.heap.size w w') : Turn R w w' := ⟨h.os, h.tape, h.output, h.size, fun k hk _ => h.block k hk⟩
theorem Turn.ofGrown {w w' : World} {row : Option Nat} (h : w.grownBy w' row) : Turn (fun k => row = some k) w w' := ⟨h.os, h.tape, h.output, h.size, fun k hk hn => h.block k hk (fun e => hn e.symm)⟩
theorem Turn.drew {R : Nat → Prop} {w w' : World} (h : Turn R w w') : Turn R w w'.drew := ⟨h.os, h.tape, h.output, h.size, h.block⟩
theorem Turn.drewN {R : Nat → Prop} {w w' : World} (h : Turn R w w') (n : Nat) : Turn R w (w'.drewN n) := ⟨h.os, h.tape, h.output, h.size, h.block⟩
theorem Turn.alloc {R : Nat → Prop} {w w' : World} (h : Turn R w w') (o : Obj) : Turn R w (w'.alloc o) :=
  h.trans (Turn.ofBelow (R := R) ((Below.refl _ _).alloc (Nat.le_refl _) o)) (fun _ _ e => e)
theorem Turn.setCell {R : Nat → Prop} {w w' : World} (h : Turn R w w') {p : Addr} (hp : p.block < w.heap.size → R p.block) (u : Value) : Turn R w (w'.setCell p u) :=
  ⟨h.os, h.tape, h.output, by simpa [World.setCell] using h.size, fun k hk hn => (Below.heap_setCell _ _ _ _ (fun e => hn (by subst e; exact hp hk))).trans (h.block k hk hn)⟩
theorem Turn.below {R : Nat → Prop} {w w' : World} {B : Nat} (h : Turn R w w') (hB : B ≤ w.heap.size) (hr : ∀ k, R k → B ≤ k) : Below B w w' :=
  ⟨h.os, h.tape, h.output, h.size, fun k hk => h.block k (by omega) (fun e => by have := hr k e; omega)⟩
theorem Turn.cell {R : Nat → Prop} {w w' : World} (h : Turn R w w') {p : Addr} {v : Value} (hc : w.cell? p = some v) (hn : ¬ R p.block) : w'.cell? p = some v :=
  (World.cell?_of_block (w := w) (h.block p.block (World.block_lt_of_cell? _ _ hc) hn)).trans hc
theorem Turn.at {R : Nat → Prop} {w w' : World} (h : Turn R w w') {k : Nat} {o : Obj} (hc : w.heap[k]? = some o) (hn : ¬ R k) : w'.heap[k]? = some o :=
  (h.block k (heap_lt hc) hn).trans hc

/-- The cells of a session. -/
def sess (gv tv : Value) (closed : Int) (v : Value) : Array Value := #[.int .u64 0, .int .i64 0, .pointer none, .string ⟨#[]⟩, gv, tv, .int .u32 0, .int .i64 closed, v, .bool false]

/-- The first k lengths summed. -/
def lsum (ln : Nat → Nat) : Nat → Nat
  | 0 => 0
  | k + 1 => lsum ln k + ln k
theorem lsum_le (ln : Nat → Nat) (k n : Nat) (h : k ≤ n) : lsum ln k ≤ lsum ln n := by
  induction n with
  | zero => obtain rfl : k = 0 := by omega
            exact Nat.le_refl _
  | succ n ih =>
    by_cases e : k = n + 1
    · subst e; exact Nat.le_refl _
    · have := ih (by omega); simp only [lsum]; omega

theorem own_later97 {w w' : World} {base n e size : Nat} {v : Value} {xs : List Value} (h : w.ownsRow base e size v n xs) (hb : Below w.heap.size w w') : w'.ownsRow base e size v n xs := by
  refine h.kept (row := none) ⟨hb.os, hb.tape, hb.output, hb.size, fun k hk _ => hb.block k hk⟩ ?_
  cases v.ownBlock <;> simp

theorem own_set {w : World} {base n m e size C o g cap : Nat} {u : Value} {xs : List Value} (h : w.ownsRow base e size (.slice (some ⟨g, 0, none⟩) m cap) n xs) (hC : C ≠ g) : (w.setCell ⟨C, o, none⟩ u).ownsRow base e size (.slice (some ⟨g, 0, none⟩) m cap) n xs :=
  h.kept (row := some C) ⟨rfl, rfl, rfl, by simp [World.setCell], fun k _ hk => Below.heap_setCell _ _ _ _ (fun e => hk (by rw [e]))⟩ (.inr (by simp [Value.ownBlock, Ne.symm hC]))

/-- The cells of a closed container. -/
def recCells (a : Int) (b : Bool) (m gid cl : Int) (typ : ByteArray) (r d up down : Int) : List Value :=
  [.int .u32 a, .bool b, .int .u8 m, .int .u32 gid, .int .i64 cl, .string typ, .int .u8 r, .int .i64 d, .int .u64 up, .int .u64 down]

theorem rec_one (a : Int) (b : Bool) (m gid cl : Int) (typ : ByteArray) (r d up down : Int) : ∀ u ∈ recCells a b m gid cl typ r d up down, u.oneCell' = true := by
  intro u hu; simp [recCells] at hu; rcases hu with h | h | h | h | h | h | h | h | h | h <;> subst h <;> rfl

theorem rec_news (w : World) (a : Int) (b : Bool) (m gid cl : Int) (typ : ByteArray) (r d up down : Int) : ∀ j u, (recCells a b m gid cl typ r d up down)[j]? = some u →
    (w.alloc (.cells #[.int .u32 a, .bool b, .int .u8 m, .int .u32 gid, .int .i64 cl, .string typ, .int .u8 r, .int .i64 d, .int .u64 up, .int .u64 down] 97)).cell? ((⟨w.heap.size, 0, none⟩ : Addr).add j) = some u :=
  fun j u hu => World.news_of_block (heap_alloc_new w _) j u hu

/-- The cells that the great statement of 'close' reads. -/
def CloseS (S C K j R' n c' : Nat) (cl a m up down x y : Int) (b : Bool) (w' : World) : Prop :=
  w'.cell? ⟨S, 8, none⟩ = some (.slice (some ⟨R', 0, none⟩) n c') ∧ w'.cell? ⟨S, 7, none⟩ = some (.int .i64 cl) ∧ w'.cell? ⟨C, j * 5, none⟩ = some (.int .u32 a) ∧ w'.cell? ⟨C, j * 5 + 1, none⟩ = some (.bool b) ∧ w'.cell? ⟨C, j * 5 + 2, none⟩ = some (.int .u8 m) ∧ w'.cell? ⟨C, j * 5 + 3, none⟩ = some (.int .u64 up) ∧ w'.cell? ⟨C, j * 5 + 4, none⟩ = some (.int .u64 down) ∧ w'.cell? ⟨K, 0, none⟩ = some (.int .u64 x) ∧ w'.cell? ⟨K, 1, none⟩ = some (.int .i64 y) ∧ w'.cell? ⟨K, 2, none⟩ = some (.pointer none)

theorem CloseS.keep {S C K j R' n c' : Nat} {cl a m up down x y : Int} {b : Bool} {w w' : World} (h : CloseS S C K j R' n c' cl a m up down x y b w) (hk : ∀ p : Addr, ∀ v, (p.block = S ∨ p.block = C ∨ p.block = K) → w.cell? p = some v → w'.cell? p = some v) : CloseS S C K j R' n c' cl a m up down x y b w' := by
  obtain ⟨h1, h2, h3, h4, h5, h6, h7, h8, h9, h10⟩ := h
  exact ⟨hk _ _ (.inl rfl) h1, hk _ _ (.inl rfl) h2, hk _ _ (.inr (.inl rfl)) h3, hk _ _ (.inr (.inl rfl)) h4, hk _ _ (.inr (.inl rfl)) h5, hk _ _ (.inr (.inl rfl)) h6, hk _ _ (.inr (.inl rfl)) h7, hk _ _ (.inr (.inr rfl)) h8, hk _ _ (.inr (.inr rfl)) h9, hk _ _ (.inr (.inr rfl)) h10⟩

theorem neT {w : World} {a b : Nat} {ca cb : Array Value} {ta tb : TypeId} {fa fb : Nat × Nat} (ha : w.heap[a]? = some (.cells ca ta fa)) (hb : w.heap[b]? = some (.cells cb tb fb)) (h : ta ≠ tb) : a ≠ b := by
  rintro rfl; rw [ha] at hb; cases hb; exact h rfl

set_option linter.unusedSimpArgs false in
set_option maxRecDepth 100000 in
set_option maxHeartbeats 2000000 in
theorem close53 (S G N C : Nat) (tv : Value) (closed : Int) (R n c base : Nat) (xs : List Value) (ln cp : Nat → Nat) (ga : Nat → Option Addr) (j : Nat) (a m up down gid d r cl : Int) (b : Bool) (typ : ByteArray) (w : World) (hcl : wrap64 (closed + 1) = cl)
    (hS : w.heap[S]? = some (.cells (sess (.slice (some ⟨G, 0, none⟩) N N) tv closed (.slice (some ⟨R, 0, none⟩) n c)) 116))
    (hG : ∀ k, k < N → w.cell? ⟨G, k * 5 + 2, none⟩ = some (.slice (ga k) (ln k) (cp k)))
    (hsum : lsum ln N ≤ 1048576) (hN : N ≤ 1048576) (hn : n ≤ 2097152) (hd : -4611686018427387904 ≤ d ∧ d ≤ 4611686018427387904)
    (cs : Array Value) (hC : w.heap[C]? = some (.cells cs 82)) (hc0 : cs[j * 5]? = some (.int .u32 a)) (hc1 : cs[j * 5 + 1]? = some (.bool b)) (hc2 : cs[j * 5 + 2]? = some (.int .u8 m)) (hc3 : cs[j * 5 + 3]? = some (.int .u64 up)) (hc4 : cs[j * 5 + 4]? = some (.int .u64 down))
    (hown : w.ownsRow base 97 10 (.slice (some ⟨R, 0, none⟩) n c) n xs) (hbase : base ≤ w.heap.size) :
    Calls Try.prog 53 #[.pointer (some ⟨S, 0, none⟩), .int .u32 gid, .pointer (some ⟨C, j * 5, none⟩), .agg #[.int .u64 (nsOf d), .int .i64 (secOf d), .pointer none], .string typ, .int .u8 r] w fun e w' => e = .returned (.tuple #[]) ∧ ∃ R2 c2, w'.heap[S]? = some (.cells (sess (.slice (some ⟨G, 0, none⟩) N N) tv cl (.slice (some ⟨R2, 0, none⟩) (n + 1) c2)) 116) ∧
      w'.ownsRow base 97 10 (.slice (some ⟨R2, 0, none⟩) (n + 1) c2) (n + 1) (xs ++ recCells a b m gid cl typ r d up down) ∧
      w'.heap[C]? = some (.cells ((cs.setIfInBounds (j * 5 + 3) (.int .u64 0)).setIfInBounds (j * 5 + 4) (.int .u64 0)) 82) ∧ Turn (fun k => k = S ∨ k = C ∨ k = R) w w' ∧ (R2 = R ∨ w.heap.size ≤ R2) := by
  have hSR : S ≠ R := by
    rcases hown.2 with ⟨hv, _⟩ | ⟨g, cap, cur, hv, _, hg, _⟩
    · cases hv
    · cases hv; exact neT hS hg (by decide)
  have hinst : Hid (∀ W, W.cell? ⟨S, 0, none⟩ = some (.int .u64 0) → W.cell? ⟨S, 1, none⟩ = some (.int .i64 0) → W.cell? ⟨S, 2, none⟩ = some (.pointer none) → Calls Try.prog 63 #[.pointer (some ⟨S, 0, none⟩), .agg #[.int .u64 (nsOf d), .int .i64 (secOf d), .pointer none]] W fun e w' => e = .returned (.int .i64 d) ∧ Below W.heap.size W w') := fun W => inst63 S d W hd
  generalize nsOf d = x at *
  generalize secOf d = y at *
  have bel : Below w.heap.size w (w.alloc (.cells #[.int .u64 x, .int .i64 y, .pointer none] 112)) := (Below.refl _ _).alloc (by simp) _
  have hSC : S ≠ C := neT hS hC (by decide)
  have tC := (bel.block C (heap_lt hC)).trans hC
  have tS := (bel.block S (heap_lt hS)).trans hS
  have tG : ∀ k, k < N → (w.alloc (.cells #[.int .u64 x, .int .i64 y, .pointer none] 112)).cell? ⟨G, k * 5 + 2, none⟩ = some (.slice (ga k) (ln k) (cp k)) := fun k hk => cell_later bel (hG k hk)
  have tO := hown.alloc (.cells #[.int .u64 x, .int .i64 y, .pointer none] 112)
  have tB : base ≤ (w.alloc (.cells #[.int .u64 x, .int .i64 y, .pointer none] 112)).heap.size := by have := bel.size; omega
  have tT : Turn (fun k => k = S ∨ k = C ∨ k = R) w (w.alloc (.cells #[.int .u64 x, .int .i64 y, .pointer none] 112)) := Turn.ofBelow bel
  have tK : (w.alloc (.cells #[.int .u64 x, .int .i64 y, .pointer none] 112)).heap[w.heap.size]? = some (.cells #[.int .u64 x, .int .i64 y, .pointer none] 112) := heap_alloc_new w _
  clear bel hS hG hown hC
  go_enter Try.func53, Try.ntmps53
  go_wp2_with fail
  generalize (w.alloc (.cells #[.int .u64 x, .int .i64 y, .pointer none] 112)) = W at *
  have t4 : W.cell? ⟨S, 4, none⟩ = some (.slice (some ⟨G, 0, none⟩) N N) := by rw [cell_of_row _ _ 4 _ _ _ tS]; rfl
  have t8 : W.cell? ⟨S, 8, none⟩ = some (.slice (some ⟨R, 0, none⟩) n c) := by rw [cell_of_row _ _ 8 _ _ _ tS]; rfl
  have f8 : W.frozen? ⟨S, 8, none⟩ = false := frozen_of_row _ _ 8 _ _ tS
  go_quiet (fail)
  go_upto_if 24 with fail
  go_cut [12] (fun _ wr => ∃ R' c', wr.heap[S]? = some (.cells (sess (.slice (some ⟨G, 0, none⟩) N N) tv closed (.slice (some ⟨R', 0, none⟩) n c')) 116) ∧ wr.ownsRow base 97 10 (.slice (some ⟨R', 0, none⟩) n c') n xs ∧ Turn (fun k => k = S) W wr ∧ (R' = R ∨ W.heap.size ≤ R'))
  case first =>
    by_cases hnc : n = c
    · have hnc' : ((n : Int) == (c : Int)) = true := by simp [hnc]
      subst hnc
      go_wp2
      go_loop [12, 30] (fun t i => ∃ k : Nat, k ≤ N ∧ i = .int .i64 k ∧ t = .int .i64 (lsum ln k)) (fun _ i => N - (intOf i).toNat)
      case atStart => exact ⟨0, Nat.zero_le _, rfl, rfl⟩
      case round =>
        obtain ⟨k, hk, rfl, rfl⟩ := hrel
        by_cases hlt : k < N
        · have g1 := tG k hlt
          have hl1 := lsum_le ln (k + 1) N (by omega)
          have hl2 : lsum ln (k + 1) = lsum ln k + ln k := rfl
          have HL : Hid _ := hl2
          have b1 : lsum ln k + ln k ≤ 1048576 := by omega
          clear hl1 hl2 tG
          go_wp2
          go_round
          case rel => exact ⟨k + 1, by omega, by go_num, by rw [HL.out]; go_num⟩
          case measure => simp [intOf]; omega
        · obtain rfl : k = N := by omega
          go_wp2_with fail
          refine (grow62 base R n (lsum ln k) xs (W.drewN nq) (by omega) (by omega) tB tO).mono ?_
          rintro e w1 ⟨R', c', rfl, own1, gr1, at1⟩
          have u1 : w1.heap[S]? = some (.cells (sess (.slice (some ⟨G, 0, none⟩) k k) tv closed (.slice (some ⟨R, 0, none⟩) n n)) 116) := (gr1.block S (heap_lt tS) (by simp)).trans tS
          have u8 : w1.cell? ⟨S, 8, none⟩ = some (.slice (some ⟨R, 0, none⟩) n n) := by rw [cell_of_row _ _ 8 _ _ _ u1]; rfl
          have v8 : w1.frozen? ⟨S, 8, none⟩ = false := frozen_of_row _ _ 8 _ _ u1
          have hSR' : S ≠ R' := by
            rcases own1.2 with ⟨hv, _⟩ | ⟨g, cap, cur, hv, _, hg, _⟩
            · cases hv
            · cases hv; exact neT u1 hg (by decide)
          have fin1 : (w1.setCell ⟨S, 8, none⟩ (.slice (some ⟨R', 0, none⟩) n c')).heap[S]? = some (.cells (sess (.slice (some ⟨G, 0, none⟩) k k) tv closed (.slice (some ⟨R', 0, none⟩) n c')) 116) := by
            rw [heap_setCell_same w1 S 8 _ _ _ u1]; rfl
          have fin2 : (w1.setCell ⟨S, 8, none⟩ (.slice (some ⟨R', 0, none⟩) n c')).ownsRow base 97 10 (.slice (some ⟨R', 0, none⟩) n c') n xs := own1.kept (row := some S) ⟨rfl, rfl, rfl, by simp [World.setCell], fun k _ hk => Below.heap_setCell _ _ _ _ (fun e => hk (by rw [e]))⟩ (.inr (by simp [Value.ownBlock, Ne.symm hSR']))
          have fin3 : Turn (fun k => k = S) W (w1.setCell ⟨S, 8, none⟩ (.slice (some ⟨R', 0, none⟩) n c')) := by
            have h0 : Turn (fun k => k = S) W w1 := ⟨gr1.os, gr1.tape, gr1.output, gr1.size, fun k hk _ => gr1.block k hk (by simp)⟩
            exact h0.setCell (fun _ => rfl) _
          have F1 : Hid _ := fin1
          have F2 : Hid _ := fin2
          have F3 : Hid _ := fin3
          clear fin1 fin2 fin3 u1 own1 gr1 tG tO
          go_wp2
          go_meet
          case rel => exact ⟨R', c', Hid.out F1, Hid.out F2, Hid.out F3, at1⟩
    · have hnc' : ((n : Int) == (c : Int)) = false := by
        rw [beq_eq_false_iff_ne]; omega
      go_wp2
      go_meet
      case rel => exact ⟨R, c, tS, tO, (Turn.refl _ _).drewN _, .inl rfl⟩
  case rest =>
    obtain ⟨R', c', uS, uO, uT, uR⟩ := hcut
    have uC := uT.at tC (Ne.symm hSC)
    have hSK : w.heap.size ≠ S := neT tK tS (by decide)
    have hCK : w.heap.size ≠ C := neT tK tC (by decide)
    have u7 : wc.cell? ⟨S, 7, none⟩ = some (.int .i64 closed) := by rw [cell_of_row _ _ 7 _ _ _ uS]; rfl
    have v7 : wc.frozen? ⟨S, 7, none⟩ = false := frozen_of_row _ _ 7 _ _ uS
    have hSR' : S ≠ R' := by
      rcases uO.2 with ⟨hv, _⟩ | ⟨g, cap, cur, hv, _, hg, _⟩
      · cases hv
      · cases hv; exact neT uS hg (by decide)
    have xS : (wc.setCell ⟨S, 7, none⟩ (.int .i64 cl)).heap[S]? = some (.cells (sess (.slice (some ⟨G, 0, none⟩) N N) tv cl (.slice (some ⟨R', 0, none⟩) n c')) 116) := by
      rw [heap_setCell_same wc S 7 _ _ _ uS]; rfl
    have xT : Turn (fun k => k = S) W (wc.setCell ⟨S, 7, none⟩ (.int .i64 cl)) := uT.setCell (fun _ => rfl) _
    have xO : (wc.setCell ⟨S, 7, none⟩ (.int .i64 cl)).ownsRow base 97 10 (.slice (some ⟨R', 0, none⟩) n c') n xs := uO.kept (row := some S) ⟨rfl, rfl, rfl, by simp [World.setCell], fun k _ hk => Below.heap_setCell _ _ _ _ (fun e => hk (by rw [e]))⟩ (.inr (by simp [Value.ownBlock, Ne.symm hSR']))
    have xC := xT.at tC (Ne.symm hSC)
    have xK := xT.at tK hSK
    clear tG tO tC t4 t8 f8 uS uO uT uC tS
    go_upto_region 10 with fail
    clear u7 v7 hcl
    generalize (wc.setCell ⟨S, 7, none⟩ (.int .i64 cl)) = w9 at *
    have y0 : w9.cell? ⟨S, 0, none⟩ = some (.int .u64 0) := by rw [cell_of_row _ _ 0 _ _ _ xS]; rfl
    have y1 : w9.cell? ⟨S, 1, none⟩ = some (.int .i64 0) := by rw [cell_of_row _ _ 1 _ _ _ xS]; rfl
    have y2 : w9.cell? ⟨S, 2, none⟩ = some (.pointer none) := by rw [cell_of_row _ _ 2 _ _ _ xS]; rfl
    have y7 : w9.cell? ⟨S, 7, none⟩ = some (.int .i64 cl) := by rw [cell_of_row _ _ 7 _ _ _ xS]; rfl
    have y8 : w9.cell? ⟨S, 8, none⟩ = some (.slice (some ⟨R', 0, none⟩) n c') := by rw [cell_of_row _ _ 8 _ _ _ xS]; rfl
    have z8 : w9.frozen? ⟨S, 8, none⟩ = false := frozen_of_row _ _ 8 _ _ xS
    have k0 : w9.cell? ⟨C, j * 5, none⟩ = some (.int .u32 a) := by rw [cell_of_row _ _ _ _ _ _ xC]; exact hc0
    have k1 : w9.cell? ⟨C, j * 5 + 1, none⟩ = some (.bool b) := by rw [cell_of_row _ _ _ _ _ _ xC]; exact hc1
    have k2 : w9.cell? ⟨C, j * 5 + 2, none⟩ = some (.int .u8 m) := by rw [cell_of_row _ _ _ _ _ _ xC]; exact hc2
    have k3 : w9.cell? ⟨C, j * 5 + 3, none⟩ = some (.int .u64 up) := by rw [cell_of_row _ _ _ _ _ _ xC]; exact hc3
    have k4 : w9.cell? ⟨C, j * 5 + 4, none⟩ = some (.int .u64 down) := by rw [cell_of_row _ _ _ _ _ _ xC]; exact hc4
    have q0 : w9.cell? ⟨w.heap.size, 0, none⟩ = some (.int .u64 x) := by rw [cell_of_row _ _ 0 _ _ _ xK]; rfl
    have q1 : w9.cell? ⟨w.heap.size, 1, none⟩ = some (.int .i64 y) := by rw [cell_of_row _ _ 1 _ _ _ xK]; rfl
    have q2 : w9.cell? ⟨w.heap.size, 2, none⟩ = some (.pointer none) := by rw [cell_of_row _ _ 2 _ _ _ xK]; rfl
    obtain ⟨i0, hi, hz0, hz1, hz2⟩ := info_parts Try.info97
    have hCR' : C ≠ R' := by
      rcases xO.2 with ⟨hv, _⟩ | ⟨g, cap, cur, hv, _, hg, _⟩
      · cases hv
      · cases hv; exact neT xC hg (by decide)
    have hKR' : w.heap.size ≠ R' := by
      rcases xO.2 with ⟨hv, _⟩ | ⟨g, cap, cur, hv, _, hg, _⟩
      · cases hv
      · cases hv; exact neT xK hg (by decide)
    have lS := heap_lt xS
    have xB : base ≤ w9.heap.size := Nat.le_trans tB xT.size
    have m1 : n + 1 ≤ maxLen := by unfold maxLen; omega
    have m2 : (n + 1) * 72 ≤ 140737488355328 := by omega
    have hH : CloseS S C w.heap.size j R' n c' cl a m up down x y b w9 := ⟨y8, y7, k0, k1, k2, k3, k4, q0, q1, q2⟩
    refine wp_region_noPanic ?_
    refine wp_region_last 32 (CloseS S C w.heap.size j R' n c' cl a m up down x y b) (by kernel_rfl) hH (fun hHeld => ?_)
    refine wpAnyL_take (i := 0) (oi := _) (v := ?_) rfl (by kernel_rfl) (by kernel_rfl) (fun _ _ _ h => h) (Or.inl ⟨by rfl, ?_⟩) hHeld ?_
    rotate_left
    · (intro w' hSw; obtain ⟨g1, g2, g3, g4, g5, g6, g7, g8, g9, g10⟩ := hSw; go_simp; first | done | with_reducible rfl)
    try simp only [Act.put, List.setIfInBounds_toArray, List.set_cons_zero, List.set_cons_succ]
    refine wpAnyL_take (i := 1) (oi := _) (v := ?_) rfl (by kernel_rfl) (by kernel_rfl) (fun _ _ _ h => h) (Or.inl ⟨by rfl, ?_⟩) hHeld ?_
    rotate_left
    · (intro w' hSw; obtain ⟨g1, g2, g3, g4, g5, g6, g7, g8, g9, g10⟩ := hSw; go_simp; first | done | with_reducible rfl)
    try simp only [Act.put, List.setIfInBounds_toArray, List.set_cons_zero, List.set_cons_succ]
    refine wpAnyL_take (i := 2) (oi := _) (v := ?_) rfl (by kernel_rfl) (by kernel_rfl) (fun _ _ _ h => h) (Or.inl ⟨by rfl, ?_⟩) hHeld ?_
    rotate_left
    · (intro w' hSw; obtain ⟨g1, g2, g3, g4, g5, g6, g7, g8, g9, g10⟩ := hSw; go_simp; first | done | with_reducible rfl)
    try simp only [Act.put, List.setIfInBounds_toArray, List.set_cons_zero, List.set_cons_succ]
    refine wpAnyL_take (i := 3) (oi := _) (v := ?_) rfl (by kernel_rfl) (by kernel_rfl) (fun _ _ _ h => h) (Or.inl ⟨by rfl, ?_⟩) hHeld ?_
    rotate_left
    · (intro w' hSw; obtain ⟨g1, g2, g3, g4, g5, g6, g7, g8, g9, g10⟩ := hSw; go_simp; first | done | with_reducible rfl)
    try simp only [Act.put, List.setIfInBounds_toArray, List.set_cons_zero, List.set_cons_succ]
    refine wpAnyL_take (i := 4) (oi := _) (v := ?_) rfl (by kernel_rfl) (by kernel_rfl) (fun _ _ _ h => h) (Or.inl ⟨by rfl, ?_⟩) hHeld ?_
    rotate_left
    · (intro w' hSw; obtain ⟨g1, g2, g3, g4, g5, g6, g7, g8, g9, g10⟩ := hSw; go_simp; first | done | with_reducible rfl)
    try simp only [Act.put, List.setIfInBounds_toArray, List.set_cons_zero, List.set_cons_succ]
    refine wpAnyL_take (i := 5) (oi := _) (v := ?_) rfl (by kernel_rfl) (by kernel_rfl) (fun _ _ _ h => h) (Or.inl ⟨by rfl, ?_⟩) hHeld ?_
    rotate_left
    · (intro w' hSw; obtain ⟨g1, g2, g3, g4, g5, g6, g7, g8, g9, g10⟩ := hSw; go_simp; first | done | with_reducible rfl)
    try simp only [Act.put, List.setIfInBounds_toArray, List.set_cons_zero, List.set_cons_succ]
    refine wpAnyL_take (i := 6) (oi := _) (v := ?_) rfl (by kernel_rfl) (by kernel_rfl) (fun _ _ _ h => h) (Or.inl ⟨by rfl, ?_⟩) hHeld ?_
    rotate_left
    · (intro w' hSw; obtain ⟨g1, g2, g3, g4, g5, g6, g7, g8, g9, g10⟩ := hSw; go_simp; first | done | with_reducible rfl)
    try simp only [Act.put, List.setIfInBounds_toArray, List.set_cons_zero, List.set_cons_succ]
    refine wpAnyL_take (i := 7) (oi := _) (v := ?_) rfl (by kernel_rfl) (by kernel_rfl) (fun _ _ _ h => h) (Or.inl ⟨by rfl, ?_⟩) hHeld ?_
    rotate_left
    · (intro w' hSw; obtain ⟨g1, g2, g3, g4, g5, g6, g7, g8, g9, g10⟩ := hSw; go_simp; first | done | with_reducible rfl)
    try simp only [Act.put, List.setIfInBounds_toArray, List.set_cons_zero, List.set_cons_succ]
    refine wpAnyL_take (i := 8) (oi := _) (v := ?_) rfl (by kernel_rfl) (by kernel_rfl) (fun _ _ _ h => h) (Or.inl ⟨by rfl, ?_⟩) hHeld ?_
    rotate_left
    · (intro w' hSw; obtain ⟨g1, g2, g3, g4, g5, g6, g7, g8, g9, g10⟩ := hSw; go_simp; first | done | with_reducible rfl)
    try simp only [Act.put, List.setIfInBounds_toArray, List.set_cons_zero, List.set_cons_succ]
    refine wpAnyL_take (i := 9) (oi := _) (v := ?_) rfl (by kernel_rfl) (by kernel_rfl) (fun _ _ _ h => h) (Or.inl ⟨by rfl, ?_⟩) hHeld ?_
    rotate_left
    · (intro w' hSw; obtain ⟨g1, g2, g3, g4, g5, g6, g7, g8, g9, g10⟩ := hSw; go_simp; first | done | with_reducible rfl)
    try simp only [Act.put, List.setIfInBounds_toArray, List.set_cons_zero, List.set_cons_succ]
    refine wpAnyL_take (i := 10) (oi := _) (v := ?_) rfl (by kernel_rfl) (by kernel_rfl) (fun _ _ _ h => h) (Or.inl ⟨by rfl, ?_⟩) hHeld ?_
    rotate_left
    · (intro w' hSw; obtain ⟨g1, g2, g3, g4, g5, g6, g7, g8, g9, g10⟩ := hSw; go_simp; first | done | with_reducible rfl)
    try simp only [Act.put, List.setIfInBounds_toArray, List.set_cons_zero, List.set_cons_succ]
    refine wpAnyL_take (i := 11) (oi := _) (v := ?_) rfl (by kernel_rfl) (by kernel_rfl) (fun _ _ _ h => h) (Or.inl ⟨by rfl, ?_⟩) hHeld ?_
    rotate_left
    · (intro w' hSw; obtain ⟨g1, g2, g3, g4, g5, g6, g7, g8, g9, g10⟩ := hSw; go_simp; first | done | with_reducible rfl)
    try simp only [Act.put, List.setIfInBounds_toArray, List.set_cons_zero, List.set_cons_succ]
    refine wpAnyL_take (i := 12) (oi := _) (v := ?_) rfl (by kernel_rfl) (by kernel_rfl) (fun _ _ _ h => h) (Or.inl ⟨by rfl, ?_⟩) hHeld ?_
    rotate_left
    · (intro w' hSw; obtain ⟨g1, g2, g3, g4, g5, g6, g7, g8, g9, g10⟩ := hSw; go_simp; first | done | with_reducible rfl)
    try simp only [Act.put, List.setIfInBounds_toArray, List.set_cons_zero, List.set_cons_succ]
    refine wpAnyL_take (i := 13) (oi := _) (v := ?_) rfl (by kernel_rfl) (by kernel_rfl) (fun _ _ _ h => h) (Or.inl ⟨by rfl, ?_⟩) hHeld ?_
    rotate_left
    · (intro w' hSw; obtain ⟨g1, g2, g3, g4, g5, g6, g7, g8, g9, g10⟩ := hSw; go_simp; first | done | with_reducible rfl)
    try simp only [Act.put, List.setIfInBounds_toArray, List.set_cons_zero, List.set_cons_succ]
    refine wpAnyL_take (i := 14) (oi := _) (v := ?_) rfl (by kernel_rfl) (by kernel_rfl) (fun _ _ _ h => h) (Or.inl ⟨by rfl, ?_⟩) hHeld ?_
    rotate_left
    · (intro w' hSw; obtain ⟨g1, g2, g3, g4, g5, g6, g7, g8, g9, g10⟩ := hSw; go_simp; first | done | with_reducible rfl)
    try simp only [Act.put, List.setIfInBounds_toArray, List.set_cons_zero, List.set_cons_succ]
    refine wpAnyL_take (i := 15) (oi := _) (v := ?_) rfl (by kernel_rfl) (by kernel_rfl) (fun _ _ _ h => h) (Or.inl ⟨by rfl, ?_⟩) hHeld ?_
    rotate_left
    · (intro w' hSw; obtain ⟨g1, g2, g3, g4, g5, g6, g7, g8, g9, g10⟩ := hSw; go_simp; first | done | with_reducible rfl)
    try simp only [Act.put, List.setIfInBounds_toArray, List.set_cons_zero, List.set_cons_succ]
    refine wpAnyL_take (i := 16) (oi := _) (v := ?_) rfl (by kernel_rfl) (by kernel_rfl) (fun _ _ _ h => h) (Or.inl ⟨by rfl, ?_⟩) hHeld ?_
    rotate_left
    · (intro w' hSw; obtain ⟨g1, g2, g3, g4, g5, g6, g7, g8, g9, g10⟩ := hSw; go_simp; first | done | with_reducible rfl)
    try simp only [Act.put, List.setIfInBounds_toArray, List.set_cons_zero, List.set_cons_succ]
    refine wpAnyL_take (i := 17) (oi := _) (v := ?_) rfl (by kernel_rfl) (by kernel_rfl) (fun _ _ _ h => h) (Or.inl ⟨by rfl, ?_⟩) hHeld ?_
    rotate_left
    · (intro w' hSw; obtain ⟨g1, g2, g3, g4, g5, g6, g7, g8, g9, g10⟩ := hSw; go_simp; first | done | with_reducible rfl)
    try simp only [Act.put, List.setIfInBounds_toArray, List.set_cons_zero, List.set_cons_succ]
    refine wpAnyL_take (i := 19) (oi := _) (v := ?_) rfl (by kernel_rfl) (by kernel_rfl) (fun _ _ _ h => h) (Or.inl ⟨by rfl, ?_⟩) hHeld ?_
    rotate_left
    · (intro w' hSw; obtain ⟨g1, g2, g3, g4, g5, g6, g7, g8, g9, g10⟩ := hSw; go_simp; first | done | with_reducible rfl)
    try simp only [Act.put, List.setIfInBounds_toArray, List.set_cons_zero, List.set_cons_succ]
    refine wpAnyL_take (i := 20) (oi := _) (v := ?_) rfl (by kernel_rfl) (by kernel_rfl) (fun _ _ _ h => h) (Or.inl ⟨by rfl, ?_⟩) hHeld ?_
    rotate_left
    · (intro w' hSw; obtain ⟨g1, g2, g3, g4, g5, g6, g7, g8, g9, g10⟩ := hSw; go_simp; first | done | with_reducible rfl)
    try simp only [Act.put, List.setIfInBounds_toArray, List.set_cons_zero, List.set_cons_succ]
    refine wpAnyL_take (i := 21) (oi := _) (v := ?_) rfl (by kernel_rfl) (by kernel_rfl) (fun _ _ _ h => h) (Or.inl ⟨by rfl, ?_⟩) hHeld ?_
    rotate_left
    · (intro w' hSw; obtain ⟨g1, g2, g3, g4, g5, g6, g7, g8, g9, g10⟩ := hSw; go_simp; first | done | with_reducible rfl)
    try simp only [Act.put, List.setIfInBounds_toArray, List.set_cons_zero, List.set_cons_succ]
    refine wpAnyL_take (i := 22) (oi := _) (v := ?_) rfl (by kernel_rfl) (by kernel_rfl) (fun _ _ _ h => h) (Or.inl ⟨by rfl, ?_⟩) hHeld ?_
    rotate_left
    · (intro w' hSw; obtain ⟨g1, g2, g3, g4, g5, g6, g7, g8, g9, g10⟩ := hSw; go_simp; first | done | with_reducible rfl)
    try simp only [Act.put, List.setIfInBounds_toArray, List.set_cons_zero, List.set_cons_succ]
    refine wpAnyL_take (i := 23) (oi := _) (v := ?_) rfl (by kernel_rfl) (by kernel_rfl) (fun _ _ _ h => h) (Or.inl ⟨by rfl, ?_⟩) hHeld ?_
    rotate_left
    · (intro w' hSw; obtain ⟨g1, g2, g3, g4, g5, g6, g7, g8, g9, g10⟩ := hSw; go_simp; first | done | with_reducible rfl)
    try simp only [Act.put, List.setIfInBounds_toArray, List.set_cons_zero, List.set_cons_succ]
    refine wpAnyL_take (i := 24) (oi := _) (v := ?_) rfl (by kernel_rfl) (by kernel_rfl) (fun _ _ _ h => h) (Or.inl ⟨by rfl, ?_⟩) hHeld ?_
    rotate_left
    · (intro w' hSw; obtain ⟨g1, g2, g3, g4, g5, g6, g7, g8, g9, g10⟩ := hSw; go_simp; first | done | with_reducible rfl)
    try simp only [Act.put, List.setIfInBounds_toArray, List.set_cons_zero, List.set_cons_succ]
    refine wpAnyL_take (i := 25) (oi := _) (v := ?_) rfl (by kernel_rfl) (by kernel_rfl) (fun _ _ _ h => h) (Or.inl ⟨by rfl, ?_⟩) hHeld ?_
    rotate_left
    · (intro w' hSw; obtain ⟨g1, g2, g3, g4, g5, g6, g7, g8, g9, g10⟩ := hSw; go_simp; first | done | with_reducible rfl)
    try simp only [Act.put, List.setIfInBounds_toArray, List.set_cons_zero, List.set_cons_succ]
    refine wpAnyL_take (i := 26) (oi := _) (v := ?_) rfl (by kernel_rfl) (by kernel_rfl) (fun _ _ _ h => h) (Or.inl ⟨by rfl, ?_⟩) hHeld ?_
    rotate_left
    · (intro w' hSw; obtain ⟨g1, g2, g3, g4, g5, g6, g7, g8, g9, g10⟩ := hSw; go_simp; first | done | with_reducible rfl)
    try simp only [Act.put, List.setIfInBounds_toArray, List.set_cons_zero, List.set_cons_succ]
    refine wpAnyL_one (i := 18) (o := _) rfl (by kernel_rfl) (fun K hK => ?_)
    go_simp
    refine (Hid.out hinst w9.drew y0 y1 y2).mono ?_
    rintro e w10 ⟨rfl, h10⟩
    go_wp2_with fail
    have b10 : Below w9.heap.size w9 w10 := ⟨h10.os, h10.tape, h10.output, h10.size, h10.block⟩
    have o10 := own_later97 xO b10
    have S10 := b10.block S lS
    rw [xS] at S10
    have C10 := (b10.block C (heap_lt xC)).trans xC
    refine hK.out _ _ (hHeld.keep fun p v _ hp => cell_later h10 hp) (fun hHeld2 => ?_)
    clear hK K hHeld hH
    clear y0 y1 y2 y7 y8 k0 k1 k2 k3 k4 q0 q1 q2 z8
    try simp only [Act.put, List.setIfInBounds_toArray, List.set_cons_zero, List.set_cons_succ]
    refine wpAnyL_take (i := 27) (oi := _) (v := ?_) rfl (by kernel_rfl) (by kernel_rfl) (fun _ _ _ h => h) (Or.inl ⟨by rfl, ?_⟩) hHeld2 ?_
    rotate_left
    · (intro w' hSw; obtain ⟨g1, g2, g3, g4, g5, g6, g7, g8, g9, g10⟩ := hSw; go_simp; first | done | with_reducible rfl)
    try simp only [Act.put, List.setIfInBounds_toArray, List.set_cons_zero, List.set_cons_succ]
    refine wpAnyL_one (i := 28) (o := _) rfl (by kernel_rfl) (fun K hK => ?_)
    go_simp
    refine hK.out _ _ (hHeld2.keep fun p v _ hp => cell_later ((Below.refl _ _).alloc (Nat.le_refl _) _) hp) (fun hHeld3 => ?_)
    clear hK K hHeld2
    try simp only [Act.put, List.setIfInBounds_toArray, List.set_cons_zero, List.set_cons_succ]
    refine wpAnyL_one (i := 29) (o := _) rfl (by kernel_rfl) (fun K hK => ?_)
    refine step_append_lies _ (by rfl) _ _ 92 (by rfl) base 97 i0 zero97 10 72 Try.underlying92 hi hz0 hz1 hz2 rfl (by decide) (.slice (some ⟨R', 0, none⟩) n c') n xs (by rfl) (o10.alloc _) ⟨w10.heap.size, 0, none⟩ 1 1 (recCells a b m gid cl typ r d up down) (by rfl) rfl (rec_news w10 a b m gid cl typ r d up down) (rec_one a b m gid cl typ r d up down) (by decide) m1 m2 (by have := b10.size; simp; omega) (w10.heap.size + 1) (by simp) ?_
    intro g cap w11 hown11 hgr11 hat11 hlt11
    have S11 : w11.heap[S]? = some (.cells (sess (.slice (some ⟨G, 0, none⟩) N N) tv cl (.slice (some ⟨R', 0, none⟩) n c')) 116) :=
      (hgr11.block S (by have := heap_lt S10; simp; omega) (by simp [Value.ownBlock]; exact hSR')).trans ((Below.heap_alloc w10 _ S (heap_lt S10)).trans S10)
    have C11 : w11.heap[C]? = some (.cells cs 82) :=
      (hgr11.block C (by have := heap_lt C10; simp; omega) (by simp [Value.ownBlock]; exact hCR')).trans ((Below.heap_alloc w10 _ C (heap_lt C10)).trans C10)
    refine hK.out _ _ (hHeld3.keep fun p v hp hc => hgr11.cell hc (by
      simp [Value.ownBlock]
      rcases hp with h | h | h
      · rw [h]; exact hSR'
      · rw [h]; exact hCR'
      · rw [h]; exact hKR')) (fun hHeld4 => ?_)
    clear hK K hHeld3
    try simp only [Act.put, List.setIfInBounds_toArray, List.set_cons_zero, List.set_cons_succ]
    refine wpAnyL_one (i := 30) (o := _) rfl (by kernel_rfl) (fun K hK => ?_)
    go_simp
    refine hK.out _ _ hHeld4 (fun hHeld5 => ?_)
    clear hK K hHeld4
    try simp only [Act.put, List.setIfInBounds_toArray, List.set_cons_zero, List.set_cons_succ]
    refine wpAnyL_one (i := 31) (o := _) rfl (by kernel_rfl) (fun K hK => ?_)
    go_simp
    refine hK.out _ _ hHeld5 (fun hHeld6 => ?_)
    clear hK K hHeld5
    try simp only [Act.put, List.setIfInBounds_toArray, List.set_cons_zero, List.set_cons_succ]
    refine wpAnyL_last (o := _) rfl (by kernel_rfl) (fun K hK => ?_)
    have y8 : w11.cell? ⟨S, 8, none⟩ = some (.slice (some ⟨R', 0, none⟩) n c') := hHeld6.1
    have z8 : w11.frozen? ⟨S, 8, none⟩ = false := frozen_of_row _ _ 8 _ _ S11
    go_simp
    refine hK.out _ _ (NoPanic.normal ?_)
    clear hK K hHeld6 y8 z8
    have S12 : (w11.setCell ⟨S, 8, none⟩ (.slice (some ⟨g, 0, none⟩) (n + 1) cap)).heap[S]? = some (.cells (sess (.slice (some ⟨G, 0, none⟩) N N) tv cl (.slice (some ⟨g, 0, none⟩) (n + 1) cap)) 116) := by
      rw [heap_setCell_same w11 S 8 _ _ _ S11]; rfl
    have C12 := (Below.heap_setCell w11 ⟨S, 8, none⟩ (.slice (some ⟨g, 0, none⟩) (n + 1) cap) C (Ne.symm hSC)).trans C11
    have hSg : S ≠ g := by
      rcases hown11.2 with ⟨hv, _⟩ | ⟨g', cap', cur, hv, _, hg, _⟩
      · cases hv
      · cases hv; exact neT S11 hg (by decide)
    have hCg : C ≠ g := by
      rcases hown11.2 with ⟨hv, _⟩ | ⟨g', cap', cur, hv, _, hg, _⟩
      · cases hv
      · cases hv; exact neT C11 hg (by decide)
    have o12 : (w11.setCell ⟨S, 8, none⟩ (.slice (some ⟨g, 0, none⟩) (n + 1) cap)).ownsRow base 97 10 (.slice (some ⟨g, 0, none⟩) (n + 1) cap) (n + 1) (xs ++ recCells a b m gid cl typ r d up down) := own_set hown11 hSg
    have hRw : R' = R ∨ w.heap.size ≤ R' := by
      rcases uR with h | h
      · exact .inl h
      · exact .inr (Nat.le_trans tT.size h)
    have T12 : Turn (fun k => k = S ∨ k = C ∨ k = R) w (w11.setCell ⟨S, 8, none⟩ (.slice (some ⟨g, 0, none⟩) (n + 1) cap)) := by
      refine Turn.setCell (((tT.trans xT (fun _ _ h => .inl h)).trans ((Turn.ofBelow (R := fun _ => False) b10).alloc _) (fun _ _ h => h.elim)).trans (Turn.ofGrown hgr11) (fun k hk h => ?_)) (fun _ => .inl rfl) _
      simp only [Value.ownBlock, Option.some.injEq] at h
      rcases hRw with e | e
      · exact .inr (.inr (by omega))
      · omega
    have hRg : g = R ∨ w.heap.size ≤ g := by
      have z1 := tT.size; have z2 := xT.size; have z3 := b10.size
      rcases hat11 with h | h
      · simp only [Value.ownBlock, Option.some.injEq] at h
        rcases hRw with e | e
        · exact .inl (by omega)
        · exact .inr (by omega)
      · exact .inr (by omega)
    clear S11 C11 S10 C10 hown11 hgr11 hat11 hlt11 xS xC xO xT xK b10 h10 o10 tT tK tB uR hRw
    generalize (w11.setCell ⟨S, 8, none⟩ (.slice (some ⟨g, 0, none⟩) (n + 1) cap)) = w12 at *
    have k3 : w12.cell? ⟨C, j * 5 + 3, none⟩ = some (.int .u64 up) := by rw [cell_of_row _ _ _ _ _ _ C12]; exact hc3
    have k4 : w12.cell? ⟨C, j * 5 + 4, none⟩ = some (.int .u64 down) := by rw [cell_of_row _ _ _ _ _ _ C12]; exact hc4
    have f3 : w12.frozen? ⟨C, j * 5 + 3, none⟩ = false := frozen_of_row _ _ _ _ _ C12
    have f4 : w12.frozen? ⟨C, j * 5 + 4, none⟩ = false := frozen_of_row _ _ _ _ _ C12
    have F1 : ((w12.setCell ⟨C, j * 5 + 3, none⟩ (.int .u64 0)).setCell ⟨C, j * 5 + 4, none⟩ (.int .u64 0)).heap[C]? = some (.cells ((cs.setIfInBounds (j * 5 + 3) (.int .u64 0)).setIfInBounds (j * 5 + 4) (.int .u64 0)) 82) :=
      heap_setCell_same _ C _ _ _ _ (heap_setCell_same w12 C _ _ _ _ C12)
    have F2 : ((w12.setCell ⟨C, j * 5 + 3, none⟩ (.int .u64 0)).setCell ⟨C, j * 5 + 4, none⟩ (.int .u64 0)).heap[S]? = some (.cells (sess (.slice (some ⟨G, 0, none⟩) N N) tv cl (.slice (some ⟨g, 0, none⟩) (n + 1) cap)) 116) :=
      (Below.heap_setCell _ _ _ S hSC).trans ((Below.heap_setCell _ _ _ S hSC).trans S12)
    have F3 : ((w12.setCell ⟨C, j * 5 + 3, none⟩ (.int .u64 0)).setCell ⟨C, j * 5 + 4, none⟩ (.int .u64 0)).ownsRow base 97 10 (.slice (some ⟨g, 0, none⟩) (n + 1) cap) (n + 1) (xs ++ recCells a b m gid cl typ r d up down) := own_set (own_set o12 hCg) hCg
    have F4 : Turn (fun k => k = S ∨ k = C ∨ k = R) w ((w12.setCell ⟨C, j * 5 + 3, none⟩ (.int .u64 0)).setCell ⟨C, j * 5 + 4, none⟩ (.int .u64 0)) := (T12.setCell (fun _ => .inr (.inl rfl)) _).setCell (fun _ => .inr (.inl rfl)) _
    have H1 : Hid _ := F1
    have H2 : Hid _ := F2
    have H3 : Hid _ := F3
    have H4 : Hid _ := F4
    clear F1 F2 F3 F4 C12 S12 o12 T12
    go_wp2
    go_end0
    exact ⟨rfl, g, cap, Hid.out H2, Hid.out H3, Hid.out H1, Hid.out H4, hRg⟩
end Go.Proofs.Qxb6608902a
