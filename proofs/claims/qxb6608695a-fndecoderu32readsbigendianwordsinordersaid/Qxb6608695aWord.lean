import Derived.Test.Qxb6608695aDec
import Derived.Lib.Endian
import Derived.Lib.EndianBits
namespace Go.Proofs.Qxb6608695a
open Go.RowKit

theorem ret_i {k : IntKind} {a b : Int} (h : a = b) : Ending.returned (.int k a) = .returned (.int k b) := by rw [h]

def be32 (b0 b1 b2 b3 : Int) : Int := b0 * 16777216 + b1 * 65536 + b2 * 256 + b3

theorem alloc_cell {w : World} {a : Addr} {v : Value} (o : Obj) (h : w.cell? a = some v) : (w.alloc o).cell? a = some v := cell_later ((Below.refl _ _).alloc (Nat.le_refl _) _) h

set_option maxHeartbeats 1000000 in
set_option maxRecDepth 100000 in
theorem uint32_30 (b o l c : Nat) (z0 z1 z2 z3 : Int) (w : World) (hl : 4 ≤ l)
    (h0 : 0 ≤ z0 ∧ z0 < 256) (h1 : 0 ≤ z1 ∧ z1 < 256) (h2 : 0 ≤ z2 ∧ z2 < 256) (h3 : 0 ≤ z3 ∧ z3 < 256)
    (c0 : w.cell? ⟨b, o, none⟩ = some (.int .u8 z0)) (c1 : w.cell? ⟨b, o + 1, none⟩ = some (.int .u8 z1)) (c2 : w.cell? ⟨b, o + 2, none⟩ = some (.int .u8 z2)) (c3 : w.cell? ⟨b, o + 3, none⟩ = some (.int .u8 z3)) :
    Calls Try.prog 30 #[.agg #[], .slice (some ⟨b, o, none⟩) l c] w fun e w' => e = .returned (.int .u32 (be32 z0 z1 z2 z3)) ∧ Below w.heap.size w w' := by
  have d0 := alloc_cell (.cells #[] 61) c0
  have d1 := alloc_cell (.cells #[] 61) c1
  have d2 := alloc_cell (.cells #[] 61) c2
  have d3 := alloc_cell (.cells #[] 61) c3
  have q0 : 0 < l := by omega
  have q1 : (1 : Int) < (l : Int) := by omega
  have q2 : (2 : Int) < (l : Int) := by omega
  have q3 : (3 : Int) < (l : Int) := by omega
  go_enter Try.func30, Try.ntmps30
  go_wp2
  go_quiet (fail)
  go_wp2
  go_ret
  refine ⟨?_, below_drewN ((Below.refl _ w).alloc (Nat.le_refl _) _) _⟩
  simp (disch := omega) only [u32_or8, u32_or16, u32_or24]
  refine ret_i (by unfold be32; omega)

theorem u32_hi8 (x y : Int) (hx0 : 0 ≤ x) (hx : x % 256 = 0) (hx1 : x < 4294967296) (hy0 : 0 ≤ y) (hy : y < 256) : bits .or .u32 x y = x + y :=
  bits_join .u32 32 (by decide) wraps_u32 8 x y hx0 hx hx1 hy0 hy (by omega)
theorem u32_hi16 (x y : Int) (hx0 : 0 ≤ x) (hx : x % 65536 = 0) (hx1 : x < 4294967296) (hy0 : 0 ≤ y) (hy : y < 65536) : bits .or .u32 x y = x + y :=
  bits_join .u32 32 (by decide) wraps_u32 16 x y hx0 hx hx1 hy0 hy (by omega)
theorem u32_hi24 (x y : Int) (hx0 : 0 ≤ x) (hx : x % 16777216 = 0) (hx1 : x < 4294967296) (hy0 : 0 ≤ y) (hy : y < 16777216) : bits .or .u32 x y = x + y :=
  bits_join .u32 32 (by decide) wraps_u32 24 x y hx0 hx hx1 hy0 hy (by omega)

set_option maxHeartbeats 1000000 in
set_option maxRecDepth 100000 in
theorem be32_24 (b o l c k : Nat) (z0 z1 z2 z3 : Int) (w : World) (hl : k + 4 ≤ l) (hlm : l ≤ 9223372036854775807)
    (h0 : 0 ≤ z0 ∧ z0 < 256) (h1 : 0 ≤ z1 ∧ z1 < 256) (h2 : 0 ≤ z2 ∧ z2 < 256) (h3 : 0 ≤ z3 ∧ z3 < 256)
    (c0 : w.cell? ⟨b, o + k, none⟩ = some (.int .u8 z0)) (c1 : w.cell? ⟨b, o + (k + 1), none⟩ = some (.int .u8 z1)) (c2 : w.cell? ⟨b, o + (k + 2), none⟩ = some (.int .u8 z2)) (c3 : w.cell? ⟨b, o + (k + 3), none⟩ = some (.int .u8 z3)) :
    Calls Try.prog 24 #[.slice (some ⟨b, o, none⟩) l c, .int .i64 k] w fun e w' => e = .returned (.int .u32 (be32 z0 z1 z2 z3)) ∧ ∃ n, w' = w.drewN n := by
  have q0 : (k : Int) < (l : Int) := by omega
  have q1 : (k : Int) + 1 < (l : Int) := by omega
  have q2 : (k : Int) + 2 < (l : Int) := by omega
  have q3 : (k : Int) + 3 < (l : Int) := by omega
  have r0 : (0 : Int) ≤ (k : Int) := by omega
  have r1 : (0 : Int) ≤ (k : Int) + 1 := by omega
  have r2 : (0 : Int) ≤ (k : Int) + 2 := by omega
  have r3 : (0 : Int) ≤ (k : Int) + 3 := by omega
  go_enter Try.func24, Try.ntmps24
  go_wp2
  go_quiet (fail)
  go_wp2
  go_ret
  refine ⟨?_, nq, rfl⟩
  simp (disch := omega) only [u32_hi24, u32_hi16, u32_hi8]
  refine ret_i (by unfold be32; omega)

/-- The bytes fit. -/
def U8s (zs : List Int) : Prop := ∀ i, 0 ≤ zs.getD i 0 ∧ zs.getD i 0 < 256
theorem U8s.drop {zs : List Int} (h : U8s zs) (k : Nat) : U8s (zs.drop k) := fun i => by
  have := h (k + i)
  simpa using this

/-- The big-endian word at place k. -/
def wordAt (zs : List Int) (k : Nat) : Int := be32 (zs.getD k 0) (zs.getD (k + 1) 0) (zs.getD (k + 2) 0) (zs.getD (k + 3) 0)

theorem wordAt_drop (zs : List Int) (k : Nat) : wordAt (zs.drop k) 0 = wordAt zs k := by simp [wordAt]

/-- 'zzb1BE32' -/
theorem be_at (W w : World) (a : Option Addr) (l c k : Nat) (kk : Int) (hk : kk = (k : Int)) (zs : List Int) (hz : zs.length = l) (hl : k + 4 ≤ l) (hm : l ≤ 1048576) (hu : U8s zs) (hbd : Bd W a zs) (hb : Below W.heap.size W w) :
    Calls Try.prog 24 #[.slice a l c, .int .i64 kk] w fun e w' => e = .returned (.int .u32 (wordAt zs k)) ∧ ∃ n, w' = w.drewN n := by
  subst hk
  obtain ⟨b, o, rfl, g⟩ := bd_at (hbd.later hb) (by omega)
  exact be32_24 b o l c k _ _ _ _ w hl (by omega) (hu k) (hu (k + 1)) (hu (k + 2)) (hu (k + 3)) (g k (by omega)) (g (k + 1) (by omega)) (g (k + 2) (by omega)) (g (k + 3) (by omega))

theorem neq22 : ∀ (w : World) (a : Option Addr) (n c n' c' : Nat), (binOp .neq 22 (.slice a n c) (.slice none n' c')).run Try.prog w = .ok (.bool (!a.isNone)) w := fun w a n c n' c' => run_neq_slice_nil_any w _ _ a n c n' c' Try.underlying22

theorem Dec.later {W w w' : World} {zs : List Int} {e : Value} (h : Dec W w zs e) (hb : Below w.heap.size w w') : Dec W w' zs e := by
  obtain ⟨a, c, h1, h2, h3, h4, h5⟩ := h
  have hlt : W.heap.size < w.heap.size := by
    have := (Array.getElem?_eq_some_iff.1 h1).1
    exact this
  exact ⟨a, c, (hb.block _ hlt).trans h1, h2, h3, h4, h5.trans (hb.mono (by omega))⟩

set_option maxHeartbeats 400000 in
theorem u32_ok29 (W w : World) (zs : List Int) (hu : U8s zs) (h : Dec W w zs .nilIface) (hl : 4 ≤ zs.length) :
    Calls Try.prog 29 #[.pointer (some ⟨W.heap.size, 0, none⟩)] w fun e w' => e = .returned (.int .u32 (wordAt zs 0)) ∧ Dec W w' (zs.drop 4) .nilIface := by
  have C := dec_take W w zs 4 h hl
  have HC : Hid _ := C
  have q := neq22
  clear C h
  go_enter Try.func29, Try.ntmps29
  go_wp2_with fail
  refine Calls.mono HC.out ?_
  rintro e w1 ⟨a1, c1, rfl, b1, d1⟩
  have e4 : (zs.take 4).length = 4 := by simp; omega
  obtain ⟨b, o, rfl, g⟩ := bd_at (b1.later d1.below) (by omega)
  have G : ∀ i, i < 4 → w1.cell? ⟨b, o + i, none⟩ = some (.int .u8 (zs.getD i 0)) := fun i hi => by
    rw [g i (by omega)]; simp [hi]
  clear g HC b1 e4
  go_wp2_with fail
  refine (uint32_30 b o 4 c1 (zs.getD 0 0) (zs.getD 1 0) (zs.getD 2 0) (zs.getD 3 0) w1 (Nat.le_refl _) (hu 0) (hu 1) (hu 2) (hu 3) (G 0 (by omega)) (G 1 (by omega)) (G 2 (by omega)) (G 3 (by omega))).mono ?_
  rintro e w2 ⟨rfl, hb2⟩
  have d2 := d1.later hb2
  clear G d1
  go_wp2
  go_ret
  exact ⟨rfl, d2⟩

set_option maxHeartbeats 400000 in
theorem u32_over29 (W w : World) (zs : List Int) (h : Dec W w zs .nilIface) (hl : zs.length < 4) :
    Calls Try.prog 29 #[.pointer (some ⟨W.heap.size, 0, none⟩)] w fun e w' => e = .returned (.int .u32 0) ∧ Dec W w' zs truncated := by
  have C := dec_over W w zs 4 h (by omega)
  have HC : Hid _ := C
  have q := neq22
  clear C h
  go_enter Try.func29, Try.ntmps29
  go_wp2_with fail
  refine Calls.mono HC.out ?_
  rintro e w1 ⟨rfl, d1⟩
  go_wp2
  go_ret
  exact ⟨rfl, d1⟩

set_option maxHeartbeats 400000 in
theorem u32_after29 (W w : World) (zs : List Int) (h : Dec W w zs truncated) :
    Calls Try.prog 29 #[.pointer (some ⟨W.heap.size, 0, none⟩)] w fun e w' => e = .returned (.int .u32 0) ∧ Dec W w' zs truncated := by
  have C := dec_after W w zs 4 h
  have HC : Hid _ := C
  have q := neq22
  clear C h
  go_enter Try.func29, Try.ntmps29
  go_wp2_with fail
  refine Calls.mono HC.out ?_
  rintro e w1 ⟨rfl, d1⟩
  go_wp2
  go_ret
  exact ⟨rfl, d1⟩

/-- 'ZZdecoderU32' is 'u32'. -/
theorem u32_shim (W w : World) (n : Int) (R : World → Prop) (h : Calls Try.prog 29 #[.pointer (some ⟨W.heap.size, 0, none⟩)] w fun e w' => e = .returned (.int .u32 n) ∧ R w') :
    Calls Try.prog 23 #[.pointer (some ⟨W.heap.size, 0, none⟩)] w fun e w' => e = .returned (.int .u32 n) ∧ R w' := by
  have HC : Hid _ := h
  clear h
  go_enter Try.func23, Try.ntmps23
  go_wp2_with fail
  refine Calls.mono HC.out ?_
  rintro e w1 ⟨rfl, d1⟩
  go_wp2
  go_ret
  exact ⟨rfl, d1⟩

theorem u32_ok (W w : World) (zs : List Int) (hu : U8s zs) (h : Dec W w zs .nilIface) (hl : 4 ≤ zs.length) :
    Calls Try.prog 23 #[.pointer (some ⟨W.heap.size, 0, none⟩)] w fun e w' => e = .returned (.int .u32 (wordAt zs 0)) ∧ Dec W w' (zs.drop 4) .nilIface := u32_shim W w _ _ (u32_ok29 W w zs hu h hl)
theorem u32_over (W w : World) (zs : List Int) (h : Dec W w zs .nilIface) (hl : zs.length < 4) :
    Calls Try.prog 23 #[.pointer (some ⟨W.heap.size, 0, none⟩)] w fun e w' => e = .returned (.int .u32 0) ∧ Dec W w' zs truncated := u32_shim W w _ _ (u32_over29 W w zs h hl)
theorem u32_after (W w : World) (zs : List Int) (h : Dec W w zs truncated) :
    Calls Try.prog 23 #[.pointer (some ⟨W.heap.size, 0, none⟩)] w fun e w' => e = .returned (.int .u32 0) ∧ Dec W w' zs truncated := u32_shim W w _ _ (u32_after29 W w zs h)
end Go.Proofs.Qxb6608695a
