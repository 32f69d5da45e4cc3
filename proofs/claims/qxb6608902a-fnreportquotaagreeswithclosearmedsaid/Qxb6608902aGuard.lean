import Derived.Test.Qxb6608902aBld
namespace Go.Proofs.Qxb6608902a
open Go.RowKit

def SaysB (F : Prop) (e : Ending) (X : Prop) : Prop := ∃ b, e = .returned (.bool b) ∧ (b = true → F) ∧ X
set_option maxHeartbeats 1000000 in
theorem len30 (t n k : Int) (w : World) : Calls Try.prog 30 #[.int .i64 t, .int .i64 n, .int .i64 k] w fun e w' => (∃ t' b, e = .returned (.tuple #[.int .i64 t', .bool b])) ∧ w = w' := by
  go_enter Try.func30, Try.ntmps30
  go_wp2
  all_goals
    go_ret2
    exact ⟨⟨_, _, rfl⟩, rfl⟩

set_option maxRecDepth 100000 in
set_option maxHeartbeats 1000000 in
theorem trg31 (a : Option Addr) (c : Nat) (ts : List Tg) (t : Int) (w : World) (hn : ts.length ≤ 1048576) (hr : Rd w a 3 (ts.map Tg.cells)) :
    Calls Try.prog 31 #[.int .i64 t, .slice a ts.length c] w fun e w' => (∃ t' b, e = .returned (.tuple #[.int .i64 t', .bool b])) ∧ w = w' := by
  go_enter Try.func31, Try.ntmps31
  go_wp2_with fail
  refine (len30 _ _ _ _).mono ?_
  rintro e w' ⟨⟨t', b, rfl⟩, rfl⟩
  cases b
  · go_wp2
    go_ret2
    exact ⟨⟨_, _, rfl⟩, rfl⟩
  · go_wp2_with fail
    go_loopw [0, 6, 7] (fun x y i W => W = w ∧ (∃ t', x = .int .i64 t') ∧ y = .bool true ∧ ∃ k : Nat, k ≤ ts.length ∧ i = .int .i64 k) (fun _ _ i _ => ts.length - (intOf i).toNat)
    case atStart => exact ⟨rfl, ⟨_, rfl⟩, rfl, 0, Nat.zero_le _, rfl⟩
    case round =>
      obtain ⟨rfl, ⟨t2, rfl⟩, rfl, k, hk, rfl⟩ := hrel
      by_cases hlt : k < ts.length
      · obtain ⟨q, hy⟩ : ∃ q, ts[k]? = some q := ⟨_, List.getElem?_eq_getElem hlt⟩
        obtain ⟨b, o, rfl, h1⟩ := hr k q.cells (by simp [hy])
        have x0 : wr.cell? ⟨b, o + k * 3, none⟩ = some (.string q.typ) := h1 0 _ rfl
        have b1 : (0 : Int) ≤ (k : Int) := by omega
        have b2 : (k : Int) < (ts.length : Int) := by omega
        clear h1 hy
        go_wp2_with fail
        refine (len30 _ _ _ _).mono ?_
        rintro e w' ⟨⟨t3, b, rfl⟩, rfl⟩
        cases b
        · go_wp2
          go_ret2
          exact ⟨⟨_, _, rfl⟩, rfl⟩
        · go_wp2_with fail
          go_roundw
          case rel => exact ⟨trivial, ⟨_, rfl⟩, rfl, k + 1, hlt, by go_num⟩
          case measure => simp [intOf]; omega
      · obtain rfl : k = ts.length := by omega
        go_wp2
        go_ret2
        exact ⟨⟨_, _, rfl⟩, rfl⟩

set_option maxRecDepth 100000 in
set_option maxHeartbeats 1000000 in
theorem size15 (a : Option Addr) (c : Nat) (rgs : List Rg) (pa : Option Addr) (pc : Nat) (prior : List Rc) (typ : ByteArray) (oa : Option Addr) (ol oc : Nat) (w : World) (hn : rgs.length ≤ 1048576) (hp : prior.length ≤ 1048576) (hr : Rd w a 6 (rgs.map Rg.cells)) (hrp : Rd w pa 10 (prior.map Rc.cells))
    (hrt : ∀ g ∈ rgs, g.ts.length ≤ 1048576 ∧ Rd w g.ta 3 (g.ts.map Tg.cells)) :
    Calls Try.prog 15 #[.slice a rgs.length c, .slice none 0 0, .slice pa prior.length pc, .string typ, .slice none 0 0, .slice oa ol oc] w fun e w' => (∃ b, e = .returned (.bool b)) ∧ w = w' := by
  go_enter Try.func15, Try.ntmps15
  go_wp2_with fail
  refine (len30 _ _ _ _).mono ?_
  rintro e w' ⟨⟨t1, b, rfl⟩, rfl⟩
  cases b
  · go_wp2
    go_ret
    exact ⟨⟨_, rfl⟩, rfl⟩
  go_wp2_with fail
  refine (len30 _ _ _ _).mono ?_
  rintro e w' ⟨⟨t2, b, rfl⟩, rfl⟩
  cases b
  · go_wp2
    go_ret
    exact ⟨⟨_, rfl⟩, rfl⟩
  go_wp2_with fail
  go_loopw [13, 14, 15] (fun x y i W => W = w ∧ (∃ t', x = .int .i64 t') ∧ y = .bool true ∧ ∃ k : Nat, k ≤ rgs.length ∧ i = .int .i64 k) (fun _ _ i _ => rgs.length - (intOf i).toNat)
  case atStart => exact ⟨rfl, ⟨_, rfl⟩, rfl, 0, Nat.zero_le _, rfl⟩
  case round =>
    obtain ⟨rfl, ⟨t3, rfl⟩, rfl, k, hk, rfl⟩ := hrel
    by_cases hlt : k < rgs.length
    · obtain ⟨g, hy⟩ : ∃ q, rgs[k]? = some q := ⟨_, List.getElem?_eq_getElem hlt⟩
      obtain ⟨htl, hrt'⟩ := hrt g (List.mem_of_getElem? hy)
      obtain ⟨b, o, rfl, h1⟩ := hr k g.cells (by simp [hy])
      have x1 : wr.cell? ⟨b, o + k * 6 + 1, none⟩ = some (.slice g.ca g.cs.length g.cc) := h1 1 _ rfl
      have x2 : wr.cell? ⟨b, o + k * 6 + 2, none⟩ = some (.slice g.ta g.ts.length g.tc) := h1 2 _ rfl
      have b1 : (0 : Int) ≤ (k : Int) := by omega
      have b2 : (k : Int) < (rgs.length : Int) := by omega
      have HR : Hid _ := hrt'
      clear h1 hy hr hrp hrt hrt'
      go_wp2_with fail
      refine (len30 _ _ _ _).mono ?_
      rintro e w' ⟨⟨t4, b, rfl⟩, rfl⟩
      cases b
      · go_wp2
        go_ret
        exact ⟨⟨_, rfl⟩, rfl⟩
      go_wp2_with fail
      refine (trg31 _ _ g.ts _ _ htl (Hid.out HR)).mono ?_
      rintro e w' ⟨⟨t5, b, rfl⟩, rfl⟩
      cases b
      · go_wp2
        go_ret
        exact ⟨⟨_, rfl⟩, rfl⟩
      go_wp2_with fail
      go_roundw
      case rel => exact ⟨trivial, ⟨_, rfl⟩, rfl, k + 1, hlt, by go_num⟩
      case measure => simp [intOf]; omega
    · obtain rfl : k = rgs.length := by omega
      clear hr hrt
      go_wp2_with fail
      refine (trg31 none 0 [] _ _ (by simp) (fun i c h => by simp at h)).mono ?_
      rintro e w' ⟨⟨t5, b, rfl⟩, rfl⟩
      cases b
      · go_wp2
        go_ret
        exact ⟨⟨_, rfl⟩, rfl⟩
      go_wp2_with fail
      refine (len30 _ _ _ _).mono ?_
      rintro e w' ⟨⟨t6, b, rfl⟩, rfl⟩
      cases b
      · go_wp2
        go_ret
        exact ⟨⟨_, rfl⟩, rfl⟩
      go_wp2_with fail
      obtain ⟨wo, rfl⟩ : ∃ W, W = wr := ⟨_, rfl⟩
      go_loopw [13, 14, 16] (fun x y i W => W = wo ∧ (∃ t', x = .int .i64 t') ∧ y = .bool true ∧ ∃ k : Nat, k ≤ prior.length ∧ i = .int .i64 k) (fun _ _ i _ => prior.length - (intOf i).toNat)
      case atStart => exact ⟨rfl, ⟨_, rfl⟩, rfl, 0, Nat.zero_le _, rfl⟩
      case round =>
        obtain ⟨rfl, ⟨t3, rfl⟩, rfl, k, hk, rfl⟩ := hrel
        by_cases hlt : k < prior.length
        · obtain ⟨p, hy⟩ : ∃ q, prior[k]? = some q := ⟨_, List.getElem?_eq_getElem hlt⟩
          obtain ⟨b, o, rfl, h1⟩ := hrp k p.cells (by simp [hy])
          have x5 : wr.cell? ⟨b, o + k * 10 + 5, none⟩ = some (.string p.typ) := h1 5 _ rfl
          have b1 : (0 : Int) ≤ (k : Int) := by omega
          have b2 : (k : Int) < (prior.length : Int) := by omega
          clear h1 hy hrp
          go_wp2_with fail
          refine (len30 _ _ _ _).mono ?_
          rintro e w' ⟨⟨t4, b, rfl⟩, rfl⟩
          cases b
          · go_wp2
            go_ret
            exact ⟨⟨_, rfl⟩, rfl⟩
          go_wp2_with fail
          go_roundw
          case rel => exact ⟨trivial, ⟨_, rfl⟩, rfl, k + 1, hlt, by go_num⟩
          case measure => simp [intOf]; omega
        · obtain rfl : k = prior.length := by omega
          clear hrp
          go_wp2_with fail
          refine (len30 _ _ _ _).mono ?_
          rintro e w' ⟨⟨t6, b, rfl⟩, rfl⟩
          cases b
          · go_wp2
            go_ret
            exact ⟨⟨_, rfl⟩, rfl⟩
          go_wp2_with fail
          refine wp_loop_rounds 1 ?_; rw [rounds_succ]
          go_wp2_with fail
          refine (len30 _ _ _ _).mono ?_
          rintro e w' ⟨⟨t7, b, rfl⟩, rfl⟩
          go_wp2
          go_ret
          exact ⟨⟨_, rfl⟩, rfl⟩

set_option maxRecDepth 100000 in
set_option maxHeartbeats 1000000 in
theorem meth16 (g : Rg) (w : World) (hn : g.cs.length ≤ 1048576) (hr : Rd w g.ca 5 (g.cs.map Ct.cells)) :
    Calls Try.prog 16 #[.agg g.cells.toArray] w fun e w' => SaysB (∀ c ∈ g.cs, c.m ≤ 1) e (Below w.heap.size w w') := by
  have hb : Below w.heap.size w (w.alloc (.cells g.cells.toArray 51)) := (Below.refl _ _).alloc (Nat.le_refl _) _
  have hr' := hr.later hb
  have hx := heap_alloc_new w (.cells g.cells.toArray 51)
  dsimp only [Rg.cells] at *
  go_enter Try.func16, Try.ntmps16
  go_wp2_with fail
  generalize (w.alloc (.cells _ 51)) = wx at *
  have y1 : wx.cell? ⟨w.heap.size, 1, none⟩ = some (.slice g.ca g.cs.length g.cc) := by rw [cell_of_row _ _ _ _ _ _ hx]; rfl
  go_loopw [3] (fun i W => W = wx ∧ ∃ k : Nat, k ≤ g.cs.length ∧ i = .int .i64 k ∧ ∀ c ∈ g.cs.take k, c.m ≤ 1) (fun i _ => g.cs.length - (intOf i).toNat)
  case atStart => exact ⟨rfl, 0, Nat.zero_le _, rfl, by simp⟩
  case round =>
    obtain ⟨rfl, k, hk, rfl, hall⟩ := hrel
    by_cases hlt : k < g.cs.length
    · obtain ⟨q, hy⟩ : ∃ q, g.cs[k]? = some q := ⟨_, List.getElem?_eq_getElem hlt⟩
      obtain ⟨b, o, eca, h1⟩ := hr' k q.cells (by simp [hy])
      rw [eca] at y1
      have x2 : wr.cell? ⟨b, o + k * 5 + 2, none⟩ = some (.int .u8 q.m) := h1 2 _ rfl
      have b1 : (0 : Int) ≤ (k : Int) := by omega
      have b2 : (k : Int) < (g.cs.length : Int) := by omega
      have he : g.cs[k] = q := (List.getElem?_eq_some_iff.1 hy).2
      have HB : Hid _ := hb
      have HY : Hid _ := he
      have HA : Hid _ := hall
      clear h1 hy eca hr hr' hx hb he hall
      by_cases hm : q.m ≤ 1
      · have hm' : ¬ (1 < q.m) := by omega
        go_wp2_with fail
        go_roundw
        case rel =>
          refine ⟨trivial, k + 1, hlt, by go_num, ?_⟩
          intro c hc
          rw [List.take_succ_eq_append_getElem hlt, Hid.out HY] at hc
          rcases List.mem_append.1 hc with h | h
          · exact Hid.out HA c h
          · rw [List.mem_singleton.1 h]; exact hm
        case measure => simp [intOf]; omega
      · have hm' : 1 < q.m := by omega
        go_wp2
        go_ret
        exact ⟨false, rfl, (fun h => by cases h), Hid.out HB⟩
    · obtain rfl : k = g.cs.length := by omega
      rw [List.take_length] at hall
      have HB : Hid _ := hb
      have HA : Hid _ := hall
      clear hr hr' hx hb hall
      go_wp2
      go_ret
      exact ⟨true, rfl, fun _ => Hid.out HA, Hid.out HB⟩
end Go.Proofs.Qxb6608902a
