import Derived.Test.Qxb6608695aBase
namespace Go.Proofs.Qxb6608695a
open Go.RowKit

theorem bd_at {w : World} {a : Option Addr} {zs : List Int} (h : Bd w a zs) (h0 : 0 < zs.length) : ∃ b off, a = some ⟨b, off, none⟩ ∧ ∀ i, i < zs.length → w.cell? ⟨b, off + i, none⟩ = some (.int .u8 (zs.getD i 0)) := by
  obtain ⟨⟨b, off, spot⟩, rfl, hc⟩ := h 0 h0
  have hspot : spot = none := by simpa [Addr.add] using World.cell?_spot hc
  subst hspot
  refine ⟨b, off, rfl, fun i hi => ?_⟩
  obtain ⟨x, hx, hc⟩ := h i hi
  cases hx
  rwa [addr_add_none] at hc

/-- 'zzb1Same' over two equal rows of bytes. -/
theorem same_bd (W w : World) (a1 a2 : Option Addr) (l c1 c2 : Nat) (zs : List Int) (hz : zs.length = l) (hm : l ≤ 4194304) (h1 : Bd W a1 zs) (h2 : Bd W a2 zs) (hb : Below W.heap.size W w) :
    Calls Try.prog 13 #[.slice a1 l c1, .slice a2 l c2] w fun e w' => e = .returned (.bool true) ∧ ∃ n, w' = w.drewN n := by
  by_cases h0 : l = 0
  · subst h0; exact same_zero a1 a2 c1 c2 w
  · obtain ⟨b1, o1, rfl, g1⟩ := bd_at (h1.later hb) (by omega)
    obtain ⟨b2, o2, rfl, g2⟩ := bd_at (h2.later hb) (by omega)
    exact same_some b1 o1 b2 o2 l c1 c2 zs w hm (fun i hi => g1 i (by omega)) (fun i hi => g2 i (by omega))

theorem bd_of_block {w : World} {g : Nat} {zs : List Int} {t : TypeId} (h : w.heap[g]? = some (.cells (bytesOf zs).toArray t)) : Bd w (some ⟨g, 0, none⟩) zs := fun i hi => by
  refine ⟨_, rfl, ?_⟩
  rw [addr_add_none, cell_of_row w g _ _ _ _ h]
  simp [bytesOf, hi]

theorem own_cap {w : World} {base n c : Nat} {a : Option Addr} {xs : List Value} (h : w.ownsRow base 5 1 (.slice a n c) n xs) : n ≤ c ∧ c ≤ 9223372036854775807 := by
  rcases h.2 with ⟨hv, h0⟩ | ⟨g, cap, cur, hv, _, _, h1, h2, _⟩
  · cases hv; omega
  · cases hv; unfold maxLen at h2; omega

/-- A DECODER in block number 'W.heap.size', made when the world was W: the bytes that are left, the error. Below it nothing has turned. -/
def Dec (W w : World) (zs : List Int) (e : Value) : Prop :=
  ∃ a c, w.heap[W.heap.size]? = some (.cells #[.slice a zs.length c, e, .nilIface] 54) ∧ zs.length ≤ c ∧ c ≤ 9223372036854775807 ∧ Bd W a zs ∧ Below W.heap.size W w

theorem Dec.below {W w : World} {zs : List Int} {e : Value} (h : Dec W w zs e) : Below W.heap.size W w := by
  obtain ⟨a, c, _, _, _, _, hb⟩ := h; exact hb
theorem Dec.drewN {W w : World} {zs : List Int} {e : Value} (h : Dec W w zs e) (n : Nat) : Dec W (w.drewN n) zs e := by
  obtain ⟨a, c, h1, h2, h3, h4, hb⟩ := h
  exact ⟨a, c, h1, h2, h3, h4, below_drewN hb n⟩
theorem Dec.drew {W w : World} {zs : List Int} {e : Value} (h : Dec W w zs e) : Dec W w.drew zs e := by
  obtain ⟨a, c, h1, h2, h3, h4, hb⟩ := h
  exact ⟨a, c, h1, h2, h3, h4, hb.drew⟩

set_option maxHeartbeats 400000 in
theorem new_dec (a : Option Addr) (l c : Nat) (zs : List Int) (w : World) (hz : zs.length = l) (hl : l ≤ c) (hc : c ≤ 9223372036854775807) (h : Bd w a zs) :
    Calls Try.prog 12 #[.slice a l c] w fun e w' => e = .returned (.pointer (some ⟨w.heap.size, 0, none⟩)) ∧ Dec w w' zs .nilIface := by
  have fin : Dec w (w.alloc (.cells #[.slice a l c, .nilIface, .nilIface] 54)) zs .nilIface := ⟨a, c, by rw [hz]; exact heap_alloc_new w _, by omega, hc, h, (Below.refl _ _).alloc (Nat.le_refl _) _⟩
  have Fin : Hid (Dec w (w.alloc (.cells #[.slice a l c, .nilIface, .nilIface] 54)) zs .nilIface) := fin
  clear fin h
  go_enter Try.func12, Try.ntmps12
  go_wp2
  go_ret
  exact ⟨rfl, Fin.out⟩

theorem dec_cells {w : World} {d : Nat} {v e r : Value} (h : w.heap[d]? = some (.cells #[v, e, r] 54)) : w.cell? ⟨d, 0, none⟩ = some v ∧ w.cell? ⟨d, 1, none⟩ = some e ∧ w.frozen? ⟨d, 0, none⟩ = false ∧ w.frozen? ⟨d, 1, none⟩ = false :=
  ⟨by rw [cell_of_row w d 0 _ _ _ h]; rfl, by rw [cell_of_row w d 1 _ _ _ h]; rfl, frozen_of_row w d 0 _ _ h, frozen_of_row w d 1 _ _ h⟩

/-- The decoder's error. -/
def truncated : Value := .iface 59 (.string ⟨#[116, 114, 117, 110, 99, 97, 116, 101, 100]⟩)

set_option maxHeartbeats 400000 in
theorem take_ok (d l c n : Nat) (a : Option Addr) (w : World) (hn : n ≤ l) (hl : l ≤ c) (_hc : c ≤ 9223372036854775807)
    (h0 : w.cell? ⟨d, 0, none⟩ = some (.slice a l c)) (h1 : w.cell? ⟨d, 1, none⟩ = some .nilIface) (hf : w.frozen? ⟨d, 0, none⟩ = false) :
    Calls Try.prog 27 #[.pointer (some ⟨d, 0, none⟩), .int .i64 n] w fun e w' => e = .returned (.slice a n c) ∧ ∃ a', w' = w.setCell ⟨d, 0, none⟩ (.slice a' (l - n) (c - n)) ∧ (c = n ∨ a' = a.map (·.add n)) := by
  by_cases hcn : c = n
  · obtain rfl : n = l := by omega
    subst hcn
    go_enter Try.func27, Try.ntmps27
    go_wp2
    go_ret
    exact ⟨rfl, a, by simp, .inl trivial⟩
  · go_enter Try.func27, Try.ntmps27
    go_wp2
    go_ret
    exact ⟨rfl, _, rfl, .inr rfl⟩

set_option maxHeartbeats 400000 in
theorem take_over (d l c : Nat) (n : Int) (a : Option Addr) (w : World) (hn : (l : Int) < n)
    (h0 : w.cell? ⟨d, 0, none⟩ = some (.slice a l c)) (h1 : w.cell? ⟨d, 1, none⟩ = some .nilIface) (hf : w.frozen? ⟨d, 1, none⟩ = false) :
    Calls Try.prog 27 #[.pointer (some ⟨d, 0, none⟩), .int .i64 n] w fun e w' => e = .returned (.slice none 0 0) ∧ w' = w.setCell ⟨d, 1, none⟩ truncated := by
  unfold truncated
  go_enter Try.func27, Try.ntmps27
  go_wp2
  go_ret
  exact ⟨rfl, rfl⟩

set_option maxHeartbeats 400000 in
theorem take_err (d : Nat) (n : Int) (w : World) (h1 : w.cell? ⟨d, 1, none⟩ = some truncated) :
    Calls Try.prog 27 #[.pointer (some ⟨d, 0, none⟩), .int .i64 n] w fun e w' => e = .returned (.slice none 0 0) ∧ w' = w := by
  unfold truncated at h1
  go_enter Try.func27, Try.ntmps27
  go_wp2
  go_ret
  exact ⟨rfl, rfl⟩

theorem dec_take (W w : World) (zs : List Int) (n : Nat) (h : Dec W w zs .nilIface) (hn : n ≤ zs.length) :
    Calls Try.prog 27 #[.pointer (some ⟨W.heap.size, 0, none⟩), .int .i64 n] w fun e w' => ∃ a c, e = .returned (.slice a n c) ∧ Bd W a (zs.take n) ∧ Dec W w' (zs.drop n) .nilIface := by
  obtain ⟨a, c, hh, hl, hc, hbd, hb⟩ := h
  obtain ⟨h0, h1, hf, _⟩ := dec_cells hh
  refine (take_ok W.heap.size zs.length c n a w hn hl hc h0 h1 hf).mono ?_
  rintro e w' ⟨rfl, a', rfl, ha⟩
  refine ⟨a, c, rfl, hbd.take n, a', c - n, ?_, by simp; omega, by omega, ?_, hb.setCell (Nat.le_refl _) _⟩
  · rw [heap_setCell_same w _ _ _ _ _ hh]; simp
  · rcases ha with ha | rfl
    · rw [List.drop_eq_nil_of_le (by omega)]; exact Bd.nil _ _
    · exact hbd.drop n

theorem dec_over (W w : World) (zs : List Int) (n : Int) (h : Dec W w zs .nilIface) (hn : (zs.length : Int) < n) :
    Calls Try.prog 27 #[.pointer (some ⟨W.heap.size, 0, none⟩), .int .i64 n] w fun e w' => e = .returned (.slice none 0 0) ∧ Dec W w' zs truncated := by
  obtain ⟨a, c, hh, hl, hc, hbd, hb⟩ := h
  obtain ⟨h0, h1, _, hf⟩ := dec_cells hh
  refine (take_over W.heap.size zs.length c n a w hn h0 h1 hf).mono ?_
  rintro e w' ⟨rfl, rfl⟩
  refine ⟨rfl, a, c, ?_, hl, hc, hbd, hb.setCell (Nat.le_refl _) _⟩
  rw [heap_setCell_same w _ _ _ _ _ hh]; simp

theorem dec_after (W w : World) (zs : List Int) (n : Int) (h : Dec W w zs truncated) :
    Calls Try.prog 27 #[.pointer (some ⟨W.heap.size, 0, none⟩), .int .i64 n] w fun e w' => e = .returned (.slice none 0 0) ∧ Dec W w' zs truncated := by
  have h' := h
  obtain ⟨a, c, hh, hl, hc, hbd, hb⟩ := h
  refine (take_err W.heap.size n w (dec_cells hh).2.1).mono ?_
  rintro e w' ⟨rfl, rfl⟩
  exact ⟨rfl, h'⟩

/-! The shims round 'take'. -/
set_option maxHeartbeats 400000 in
theorem dec_take14 (W w : World) (zs : List Int) (n : Nat) (h : Dec W w zs .nilIface) (hn : n ≤ zs.length) :
    Calls Try.prog 14 #[.pointer (some ⟨W.heap.size, 0, none⟩), .int .i64 n] w fun e w' => ∃ a c, e = .returned (.slice a n c) ∧ Bd W a (zs.take n) ∧ Dec W w' (zs.drop n) .nilIface := by
  have hC : Hid (Calls Try.prog 27 #[.pointer (some ⟨W.heap.size, 0, none⟩), .int .i64 n] w fun e w' => ∃ a c, e = .returned (.slice a n c) ∧ Bd W a (zs.take n) ∧ Dec W w' (zs.drop n) .nilIface) := dec_take W w zs n h hn
  clear h
  go_enter Try.func14, Try.ntmps14
  go_wp2_with fail
  refine Calls.mono hC.out ?_
  rintro e w' ⟨a, c, rfl, h1, h2⟩
  go_wp2
  go_ret
  exact ⟨a, c, rfl, h1, h2⟩

theorem dec_take14' (W w : World) (zs : List Int) (m : Int) (n : Nat) (hm : m = (n : Int)) (h : Dec W w zs .nilIface) (hn : n ≤ zs.length) :
    Calls Try.prog 14 #[.pointer (some ⟨W.heap.size, 0, none⟩), .int .i64 m] w fun e w' => ∃ a c, e = .returned (.slice a n c) ∧ Bd W a (zs.take n) ∧ Dec W w' (zs.drop n) .nilIface := by
  subst hm; exact dec_take14 W w zs n h hn

theorem dec_pre (W w : World) (xs ys : List Int) (m : Int) (n : Nat) (hm : m = (n : Int)) (hn : xs.length = n) (h : Dec W w (xs ++ ys) .nilIface) :
    Calls Try.prog 14 #[.pointer (some ⟨W.heap.size, 0, none⟩), .int .i64 m] w fun e w' => ∃ a c, e = .returned (.slice a n c) ∧ Bd W a xs ∧ Dec W w' ys .nilIface := by
  refine (dec_take14' W w (xs ++ ys) m n hm h (by simp; omega)).mono ?_
  rintro e w' ⟨a, c, rfl, h1, h2⟩
  rw [List.take_append_of_le_length (by omega), List.take_of_length_le (by omega)] at h1
  rw [List.drop_append_of_le_length (by omega), List.drop_of_length_le (by omega)] at h2
  exact ⟨a, c, rfl, h1, h2⟩

set_option maxHeartbeats 400000 in
theorem dec_over14 (W w : World) (zs : List Int) (n : Int) (h : Dec W w zs .nilIface) (hn : (zs.length : Int) < n) :
    Calls Try.prog 14 #[.pointer (some ⟨W.heap.size, 0, none⟩), .int .i64 n] w fun e w' => e = .returned (.slice none 0 0) ∧ Dec W w' zs truncated := by
  have hC : Hid (Calls Try.prog 27 #[.pointer (some ⟨W.heap.size, 0, none⟩), .int .i64 n] w fun e w' => e = .returned (.slice none 0 0) ∧ Dec W w' zs truncated) := dec_over W w zs n h hn
  clear h
  go_enter Try.func14, Try.ntmps14
  go_wp2_with fail
  refine Calls.mono hC.out ?_
  rintro e w' ⟨rfl, h1⟩
  go_wp2
  go_ret
  exact ⟨rfl, h1⟩

set_option maxHeartbeats 400000 in
theorem dec_err15 (d : Nat) (e : Value) (w : World) (h1 : w.cell? ⟨d, 1, none⟩ = some e) :
    Calls Try.prog 15 #[.pointer (some ⟨d, 0, none⟩)] w fun x w' => x = .returned e ∧ w' = w := by
  go_enter Try.func15, Try.ntmps15
  go_wp2
  go_ret
  exact ⟨rfl, rfl⟩
set_option maxHeartbeats 400000 in
theorem dec_rest16 (d : Nat) (e : Value) (w : World) (h1 : w.cell? ⟨d, 0, none⟩ = some e) :
    Calls Try.prog 16 #[.pointer (some ⟨d, 0, none⟩)] w fun x w' => x = .returned e ∧ w' = w := by
  go_enter Try.func16, Try.ntmps16
  go_wp2
  go_ret
  exact ⟨rfl, rfl⟩

theorem dec_err (W w : World) (zs : List Int) (e : Value) (h : Dec W w zs e) :
    Calls Try.prog 15 #[.pointer (some ⟨W.heap.size, 0, none⟩)] w fun x w' => x = .returned e ∧ w = w' := by
  obtain ⟨a, c, hh, _⟩ := h
  refine (dec_err15 W.heap.size e w (dec_cells hh).2.1).mono ?_
  rintro x w' ⟨rfl, rfl⟩; exact ⟨rfl, rfl⟩
theorem dec_rest (W w : World) (zs : List Int) (e : Value) (h : Dec W w zs e) :
    Calls Try.prog 16 #[.pointer (some ⟨W.heap.size, 0, none⟩)] w fun x w' => ∃ a c, x = .returned (.slice a zs.length c) ∧ Bd W a zs ∧ w = w' := by
  obtain ⟨a, c, hh, _, _, hbd, _⟩ := h
  refine (dec_rest16 W.heap.size _ w (dec_cells hh).1).mono ?_
  rintro x w' ⟨rfl, rfl⟩; exact ⟨a, c, rfl, hbd, rfl⟩
end Go.Proofs.Qxb6608695a
