import Derived.Test.Qxb6608902aBld
namespace Go.Proofs.Qxb6608902a
open Go.RowKit

theorem Rd.u32 {w : World} {a : Option Addr} {ys : List Int} {k : Nat} {y : Int} (h : Rd w a 1 (ys.map fun y => [.int .u32 y])) (hy : ys[k]? = some y) : ∃ b o, a = some ⟨b, o, none⟩ ∧ w.cell? ⟨b, o + k, none⟩ = some (.int .u32 y) := by
  obtain ⟨b, o, e, h1⟩ := h k [.int .u32 y] (by simp [hy])
  exact ⟨b, o, e, by have := h1 0 _ rfl; simpa using this⟩

def Rd2 (w : World) (a : Option Addr) (css : List (List Ct)) : Prop := ∀ k cs, css[k]? = some cs → ∃ b o ca cc, a = some ⟨b, o, none⟩ ∧ w.cell? ⟨b, o + k, none⟩ = some (.slice ca cs.length cc) ∧ Rd w ca 5 (cs.map Ct.cells)
theorem Rd2.later {w w' : World} {a : Option Addr} {css : List (List Ct)} (h : Rd2 w a css) (hb : Below w.heap.size w w') : Rd2 w' a css := fun k cs hk => by
  obtain ⟨b, o, ca, cc, e, h1, h2⟩ := h k cs hk
  exact ⟨b, o, ca, cc, e, cell_later hb h1, h2.later hb⟩

set_option maxRecDepth 100000 in
set_option maxHeartbeats 1000000 in
theorem u32eq48 (a a' : Option Addr) (c c' : Nat) (ys : List Int) (w : World) (hn : ys.length ≤ 4194304) (ha : Rd w a 1 (ys.map fun y => [.int .u32 y])) (ha' : Rd w a' 1 (ys.map fun y => [.int .u32 y])) :
    Calls Try.prog 48 #[.slice a ys.length c, .slice a' ys.length c'] w fun e w' => e = .returned (.bool true) ∧ Below w.heap.size w w' := by
  go_enter Try.func48, Try.ntmps48
  go_wp2_with fail
  go_loopw [5] (fun i W => Below w.heap.size w W ∧ ∃ k : Nat, k ≤ ys.length ∧ i = .int .i64 k) (fun i _ => ys.length - (intOf i).toNat)
  case atStart => exact ⟨Below.refl _ _, 0, Nat.zero_le _, rfl⟩
  case round =>
    obtain ⟨hb, k, hk, rfl⟩ := hrel
    by_cases hlt : k < ys.length
    · obtain ⟨y, hy⟩ : ∃ q, ys[k]? = some q := ⟨_, List.getElem?_eq_getElem hlt⟩
      obtain ⟨b1, o1, rfl, h1⟩ := ha.u32 hy
      obtain ⟨b2, o2, rfl, h2⟩ := ha'.u32 hy
      have x1 := cell_later hb h1
      have x2 := cell_later hb h2
      have d1 : (0 : Int) ≤ (k : Int) := by omega
      have d2 : (k : Int) < (ys.length : Int) := by omega
      have HB : Hid _ := hb
      clear h1 h2 hb ha ha' hy
      go_wp2_with fail
      go_quiet (fail)
      go_wp2_with fail
      go_roundw
      case rel => exact ⟨⟨(Hid.out HB).os, (Hid.out HB).tape, (Hid.out HB).output, (Hid.out HB).size, (Hid.out HB).block⟩, k + 1, hlt, by go_num⟩
      case measure => simp [intOf]; omega
    · obtain rfl : k = ys.length := by omega
      have HB : Hid _ := hb
      clear ha ha' hb
      go_wp2
      go_ret
      exact ⟨rfl, Hid.out HB⟩

set_option maxRecDepth 100000 in
set_option maxHeartbeats 1000000 in
theorem recseq25 (a a' : Option Addr) (c c' : Nat) (rs : List Rc) (w : World) (hn : rs.length ≤ 4194304) (ha : Rd w a 10 (rs.map Rc.cells)) (ha' : Rd w a' 10 (rs.map Rc.cells)) :
    Calls Try.prog 25 #[.slice a rs.length c, .slice a' rs.length c'] w fun e w' => e = .returned (.bool true) ∧ Below w.heap.size w w' := by
  go_enter Try.func25, Try.ntmps25
  go_wp2_with fail
  go_loopw [5] (fun i W => Below w.heap.size w W ∧ ∃ k : Nat, k ≤ rs.length ∧ i = .int .i64 k) (fun i _ => rs.length - (intOf i).toNat)
  case atStart => exact ⟨Below.refl _ _, 0, Nat.zero_le _, rfl⟩
  case round =>
    obtain ⟨hb, k, hk, rfl⟩ := hrel
    by_cases hlt : k < rs.length
    · obtain ⟨p, hy⟩ : ∃ q, rs[k]? = some q := ⟨_, List.getElem?_eq_getElem hlt⟩
      obtain ⟨b1, o1, rfl, h1⟩ := ha k p.cells (by simp [hy])
      obtain ⟨b2, o2, rfl, h2⟩ := ha' k p.cells (by simp [hy])
      have x0 : wr.cell? ⟨b1, o1 + k * 10, none⟩ = some (.int .u32 p.a) := cell_later hb (h1 0 _ rfl)
      have x1 : wr.cell? ⟨b1, o1 + k * 10 + 1, none⟩ = some (.bool p.b) := cell_later hb (h1 1 _ rfl)
      have x2 : wr.cell? ⟨b1, o1 + k * 10 + 2, none⟩ = some (.int .u8 p.m) := cell_later hb (h1 2 _ rfl)
      have x3 : wr.cell? ⟨b1, o1 + k * 10 + 3, none⟩ = some (.int .u32 p.gid) := cell_later hb (h1 3 _ rfl)
      have x4 : wr.cell? ⟨b1, o1 + k * 10 + 4, none⟩ = some (.int .i64 p.cl) := cell_later hb (h1 4 _ rfl)
      have x5 : wr.cell? ⟨b1, o1 + k * 10 + 5, none⟩ = some (.string p.typ) := cell_later hb (h1 5 _ rfl)
      have x6 : wr.cell? ⟨b1, o1 + k * 10 + 6, none⟩ = some (.int .u8 p.r) := cell_later hb (h1 6 _ rfl)
      have x7 : wr.cell? ⟨b1, o1 + k * 10 + 7, none⟩ = some (.int .i64 p.d) := cell_later hb (h1 7 _ rfl)
      have x8 : wr.cell? ⟨b1, o1 + k * 10 + 8, none⟩ = some (.int .u64 p.up) := cell_later hb (h1 8 _ rfl)
      have x9 : wr.cell? ⟨b1, o1 + k * 10 + 9, none⟩ = some (.int .u64 p.dn) := cell_later hb (h1 9 _ rfl)
      have y0 : wr.cell? ⟨b2, o2 + k * 10, none⟩ = some (.int .u32 p.a) := cell_later hb (h2 0 _ rfl)
      have y1 : wr.cell? ⟨b2, o2 + k * 10 + 1, none⟩ = some (.bool p.b) := cell_later hb (h2 1 _ rfl)
      have y2 : wr.cell? ⟨b2, o2 + k * 10 + 2, none⟩ = some (.int .u8 p.m) := cell_later hb (h2 2 _ rfl)
      have y3 : wr.cell? ⟨b2, o2 + k * 10 + 3, none⟩ = some (.int .u32 p.gid) := cell_later hb (h2 3 _ rfl)
      have y4 : wr.cell? ⟨b2, o2 + k * 10 + 4, none⟩ = some (.int .i64 p.cl) := cell_later hb (h2 4 _ rfl)
      have y5 : wr.cell? ⟨b2, o2 + k * 10 + 5, none⟩ = some (.string p.typ) := cell_later hb (h2 5 _ rfl)
      have y6 : wr.cell? ⟨b2, o2 + k * 10 + 6, none⟩ = some (.int .u8 p.r) := cell_later hb (h2 6 _ rfl)
      have y7 : wr.cell? ⟨b2, o2 + k * 10 + 7, none⟩ = some (.int .i64 p.d) := cell_later hb (h2 7 _ rfl)
      have y8 : wr.cell? ⟨b2, o2 + k * 10 + 8, none⟩ = some (.int .u64 p.up) := cell_later hb (h2 8 _ rfl)
      have y9 : wr.cell? ⟨b2, o2 + k * 10 + 9, none⟩ = some (.int .u64 p.dn) := cell_later hb (h2 9 _ rfl)
      have d1 : (0 : Int) ≤ (k : Int) := by omega
      have d2 : (k : Int) < (rs.length : Int) := by omega
      have HB : Hid _ := hb
      clear h1 h2 hb ha ha' hy
      go_wp2_with fail
      go_quiet (fail)
      go_wp2_with fail
      go_roundw
      case rel => exact ⟨⟨(Hid.out HB).os, (Hid.out HB).tape, (Hid.out HB).output, (Hid.out HB).size, (Hid.out HB).block⟩, k + 1, hlt, by go_num⟩
      case measure => simp [intOf]; omega
    · obtain rfl : k = rs.length := by omega
      have HB : Hid _ := hb
      clear ha ha' hb
      go_wp2
      go_ret
      exact ⟨rfl, Hid.out HB⟩

set_option maxRecDepth 100000 in
set_option maxHeartbeats 1000000 in
theorem ctrseq26 (a a' : Option Addr) (c c' : Nat) (css : List (List Ct)) (w : World) (hn : css.length ≤ 4194304) (hcs : ∀ cs ∈ css, cs.length ≤ 4194304) (ha : Rd2 w a css) (ha' : Rd2 w a' css) :
    Calls Try.prog 26 #[.slice a css.length c, .slice a' css.length c'] w fun e w' => e = .returned (.bool true) ∧ Below w.heap.size w w' := by
  go_enter Try.func26, Try.ntmps26
  go_wp2_with fail
  go_loopw [5] (fun i W => Below w.heap.size w W ∧ ∃ k : Nat, k ≤ css.length ∧ i = .int .i64 k) (fun i _ => css.length - (intOf i).toNat)
  case atStart => exact ⟨Below.refl _ _, 0, Nat.zero_le _, rfl⟩
  case round =>
    obtain ⟨hb, k, hk, rfl⟩ := hrel
    by_cases hlt : k < css.length
    · obtain ⟨cs, hy⟩ : ∃ q, css[k]? = some q := ⟨_, List.getElem?_eq_getElem hlt⟩
      have hcl := hcs cs (List.mem_of_getElem? hy)
      obtain ⟨b1, o1, ca1, cc1, rfl, h1, hc1⟩ := ha k cs hy
      obtain ⟨b2, o2, ca2, cc2, rfl, h2, hc2⟩ := ha' k cs hy
      have z1 := cell_later hb h1
      have z2 := cell_later hb h2
      have d1 : (0 : Int) ≤ (k : Int) := by omega
      have d2 : (k : Int) < (css.length : Int) := by omega
      have HB : Hid _ := hb
      have HC1 : Hid _ := hc1
      have HC2 : Hid _ := hc2
      clear hb ha ha' hy hc1 hc2
      go_wp2_with fail
      go_quiet (fail)
      go_wp2_with fail
      obtain ⟨wo, rfl⟩ : ∃ W, W = wr := ⟨_, rfl⟩
      clear z1 z2
      go_loopw [6] (fun i W => Below w.heap.size w W ∧ ∃ j : Nat, j ≤ cs.length ∧ i = .int .i64 j) (fun i _ => cs.length - (intOf i).toNat)
      case atStart => exact ⟨⟨(Hid.out HB).os, (Hid.out HB).tape, (Hid.out HB).output, (Hid.out HB).size, (Hid.out HB).block⟩, 0, Nat.zero_le _, rfl⟩
      case round =>
        obtain ⟨hb, j, hj, rfl⟩ := hrel
        have z1 := cell_later hb h1
        have z2 := cell_later hb h2
        clear HB
        by_cases hjlt : j < cs.length
        · obtain ⟨q, hq⟩ : ∃ q, cs[j]? = some q := ⟨_, List.getElem?_eq_getElem hjlt⟩
          obtain ⟨c1, p1, rfl, g1⟩ := Hid.out HC1 j q.cells (by simp [hq])
          obtain ⟨c2, p2, rfl, g2⟩ := Hid.out HC2 j q.cells (by simp [hq])
          have x0 : wr.cell? ⟨c1, p1 + j * 5, none⟩ = some (.int .u32 q.a) := cell_later hb (g1 0 _ rfl)
          have x1 : wr.cell? ⟨c1, p1 + j * 5 + 1, none⟩ = some (.bool q.b) := cell_later hb (g1 1 _ rfl)
          have x2 : wr.cell? ⟨c1, p1 + j * 5 + 2, none⟩ = some (.int .u8 q.m) := cell_later hb (g1 2 _ rfl)
          have x3 : wr.cell? ⟨c1, p1 + j * 5 + 3, none⟩ = some (.int .u64 q.up) := cell_later hb (g1 3 _ rfl)
          have x4 : wr.cell? ⟨c1, p1 + j * 5 + 4, none⟩ = some (.int .u64 q.dn) := cell_later hb (g1 4 _ rfl)
          have y0 : wr.cell? ⟨c2, p2 + j * 5, none⟩ = some (.int .u32 q.a) := cell_later hb (g2 0 _ rfl)
          have y1 : wr.cell? ⟨c2, p2 + j * 5 + 1, none⟩ = some (.bool q.b) := cell_later hb (g2 1 _ rfl)
          have y2 : wr.cell? ⟨c2, p2 + j * 5 + 2, none⟩ = some (.int .u8 q.m) := cell_later hb (g2 2 _ rfl)
          have y3 : wr.cell? ⟨c2, p2 + j * 5 + 3, none⟩ = some (.int .u64 q.up) := cell_later hb (g2 3 _ rfl)
          have y4 : wr.cell? ⟨c2, p2 + j * 5 + 4, none⟩ = some (.int .u64 q.dn) := cell_later hb (g2 4 _ rfl)
          have d3 : (0 : Int) ≤ (j : Int) := by omega
          have d4 : (j : Int) < (cs.length : Int) := by omega
          have HB : Hid _ := hb
          clear g1 g2 hb hq HC1 HC2 h1 h2
          go_wp2_with fail
          go_quiet (fail)
          go_wp2_with fail
          go_roundw
          case rel => exact ⟨⟨(Hid.out HB).os, (Hid.out HB).tape, (Hid.out HB).output, (Hid.out HB).size, (Hid.out HB).block⟩, j + 1, hjlt, by go_num⟩
          case measure => simp [intOf]; omega
        · obtain rfl : j = cs.length := by omega
          have HB : Hid _ := hb
          clear HC1 HC2 hb h1 h2
          go_wp2_with fail
          go_roundw
          case rel => exact ⟨Hid.out HB, k + 1, hlt, by go_num⟩
          case measure => simp [intOf]; omega
    · obtain rfl : k = css.length := by omega
      have HB : Hid _ := hb
      clear ha ha' hb
      go_wp2
      go_ret
      exact ⟨rfl, Hid.out HB⟩

set_option maxRecDepth 100000 in
set_option maxHeartbeats 1000000 in
theorem outc27 (O : Nat) (im : Bool) (tb a a' : Option Addr) (c c' : Nat) (typ : ByteArray) (ys : List Int) (w : World) (hn : ys.length ≤ 4194304) (hO : w.heap[O]? = some (.cells #[.bool im, .slice tb 0 0, .slice a ys.length c] 140)) (ha : Rd w a 1 (ys.map fun y => [.int .u32 y])) (ha' : Rd w a' 1 (ys.map fun y => [.int .u32 y])) :
    Calls Try.prog 27 #[.pointer (some ⟨O, 0, none⟩), .bool im, .slice none 0 0, .bool false, .string typ, .slice a' ys.length c'] w fun e w' => e = .returned (.bool true) ∧ Below w.heap.size w w' := by
  have HG : Hid _ := get47 O (.bool im) (.slice tb 0 0) (.slice a ys.length c) w hO
  have H48 : ∀ n, Hid (Calls Try.prog 48 #[.slice a ys.length c, .slice a' ys.length c'] (w.drewN n) fun e w' => e = .returned (.bool true) ∧ Below w.heap.size w w') := fun n => (u32eq48 a a' c c' ys (w.drewN n) hn (ha.later (below_drewN w n)) (ha'.later (below_drewN w n))).mono fun e w' ⟨h1, h2⟩ => ⟨h1, (below_drewN w n).trans h2⟩
  clear hO ha ha'
  go_enter Try.func27, Try.ntmps27
  go_wp2_with fail
  refine Calls.mono (Hid.out HG) ?_
  rintro e w1 ⟨rfl, n, rfl⟩
  clear HG
  cases im
  · go_wp2_with fail
    refine Calls.mono (Hid.out (H48 n)) ?_
    rintro e w2 ⟨rfl, hb⟩
    have HB : Hid _ := hb
    clear hb H48
    go_wp2_with fail
    refine wp_loop_rounds 1 ?_; rw [rounds_succ]
    go_wp2
    go_ret
    exact ⟨rfl, Hid.out HB⟩
  · go_wp2_with fail
    refine Calls.mono (Hid.out (H48 n)) ?_
    rintro e w2 ⟨rfl, hb⟩
    have HB : Hid _ := hb
    clear hb H48
    go_wp2_with fail
    refine wp_loop_rounds 1 ?_; rw [rounds_succ]
    go_wp2
    go_ret
    exact ⟨rfl, Hid.out HB⟩

set_option maxHeartbeats 1000000 in
theorem blocked23 (g : Rg) (q : Ct) (w : World) : Calls Try.prog 23 #[.agg g.cells.toArray, .agg q.cells.toArray] w fun e w' => e = .returned (.bool (decide (q.m = 0) && g.hg && g.ex && g.te)) ∧ Below w.heap.size w w' := by
  obtain ⟨id, ca, cc, cs, ta, tc, ts, hg, ex, te⟩ := g
  obtain ⟨a, b, m, up, dn⟩ := q
  have HB : Hid (Below w.heap.size w ((w.alloc (.cells (Rg.cells ⟨id, ca, cc, cs, ta, tc, ts, hg, ex, te⟩).toArray 51)).alloc (.cells (Ct.cells ⟨a, b, m, up, dn⟩).toArray 66))) := ((Below.refl _ w).alloc (Nat.le_refl _) _).alloc (by simp) _
  dsimp only [Rg.cells, Ct.cells] at *
  by_cases hm : m = 0
  · subst hm
    cases hg <;> cases ex <;> cases te <;> (go_enter Try.func23, Try.ntmps23; go_wp2; go_ret; exact ⟨by simp, Hid.out HB⟩)
  · have hm' : decide (m = 0) = false := by simp [hm]
    have hm2 : (m == 0) = false := by simp [hm]
    go_enter Try.func23, Try.ntmps23
    go_wp2
    go_ret
    exact ⟨by simp [hm], Hid.out HB⟩
end Go.Proofs.Qxb6608902a
