import Derived.Test.Qxb6608902aGuard
namespace Go.Proofs.Qxb6608902a
open Go.RowKit

def clen (rgs : List Rg) (j : Nat) : Nat := match rgs[j]? with | some g => g.cs.length | none => 0

theorem wrap_add {x y : Int} (h : 0 ≤ x ∧ x ≤ 1048576) (h' : 0 ≤ y ∧ y ≤ 1048576) : wrap64 (x + y) = x + y := by unfold wrap64; omega


structure Fits (rgs : List Rg) (prior : List Rc) (on : Nat) : Prop where
  n : rgs.length ≤ 1048576
  p : prior.length ≤ 1048576
  o : on ≤ 1048576
  g : ∀ g ∈ rgs, g.cs.length ≤ 1048576 ∧ g.ts.length ≤ 1048576
  s : lsum (clen rgs) rgs.length ≤ 1048576

set_option maxRecDepth 100000 in
set_option maxHeartbeats 4000000 in
theorem bytes14 (a : Option Addr) (c : Nat) (rgs : List Rg) (i closed : Int) (pa : Option Addr) (pc : Nat) (prior : List Rc) (atNs : Int) (typ : ByteArray) (ask im : Bool) (oa : Option Addr) (ol oc : Nat) (w : World) (hr : Rd w a 6 (rgs.map Rg.cells)) (hrp : Rd w pa 10 (prior.map Rc.cells))
    (hrt : ∀ g ∈ rgs, Rd w g.ta 3 (g.ts.map Tg.cells)) :
    Calls Try.prog 14 #[.slice a rgs.length c, .int .i64 i, .int .i64 closed, .slice pa prior.length pc, .int .i64 atNs, .string typ, .bool ask, .bool im, .slice oa ol oc] w fun e w' => SaysB (Fits rgs prior ol) e (w = w') := by
  go_enter Try.func14, Try.ntmps14
  by_cases hn : rgs.length ≤ 1048576
  case neg =>
    have hn' : (1048576 : Int) < (rgs.length : Int) := by omega
    go_wp2
    go_ret
    exact ⟨false, rfl, (fun h => by cases h), rfl⟩
  have hn1 : ¬ ((1048576 : Int) < (rgs.length : Int)) := by omega
  have hn2 : wrap64 (0 + (rgs.length : Int)) = (rgs.length : Int) := by unfold wrap64; omega
  have hn3 : wrap64 (rgs.length : Int) = (rgs.length : Int) := by unfold wrap64; omega
  go_wp2_with fail
  go_loopw [19, 20] (fun x i W => W = w ∧ ∃ k z : Nat, k ≤ rgs.length ∧ i = .int .i64 k ∧ x = .int .i64 z ∧ z ≤ 1048576 ∧ lsum (clen rgs) k ≤ z ∧ ∀ g ∈ rgs.take k, g.cs.length ≤ 1048576 ∧ g.ts.length ≤ 1048576) (fun _ i _ => rgs.length - (intOf i).toNat)
  case atStart => exact ⟨rfl, 0, rgs.length, Nat.zero_le _, rfl, rfl, hn, by simp [lsum], by simp⟩
  case round =>
    clear hn1 hn2 hn3
    obtain ⟨rfl, k, z, hk, rfl, rfl, hz, hsum, hall⟩ := hrel
    by_cases hlt : k < rgs.length
    · obtain ⟨g, hy⟩ : ∃ q, rgs[k]? = some q := ⟨_, List.getElem?_eq_getElem hlt⟩
      have hrt' := hrt g (List.mem_of_getElem? hy)
      obtain ⟨b, o, rfl, h1⟩ := hr k g.cells (by simp [hy])
      have x1 : wr.cell? ⟨b, o + k * 6 + 1, none⟩ = some (.slice g.ca g.cs.length g.cc) := h1 1 _ rfl
      have x2 : wr.cell? ⟨b, o + k * 6 + 2, none⟩ = some (.slice g.ta g.ts.length g.tc) := h1 2 _ rfl
      have b1 : (0 : Int) ≤ (k : Int) := by omega
      have b2 : (k : Int) < (rgs.length : Int) := by omega
      have hcl : clen rgs k = g.cs.length := by simp [clen, hy]
      have he : rgs[k] = g := (List.getElem?_eq_some_iff.1 hy).2
      have HR : Hid _ := hrt'
      have HC : Hid _ := hcl
      have HE : Hid _ := he
      have HA : Hid _ := hall
      have HS : Hid _ := hsum
      clear h1 hy hr hrp hrt hrt' hcl he hall hsum
      by_cases c1 : g.cs.length ≤ 1048576
      case neg =>
        have c1' : (1048576 : Int) < (g.cs.length : Int) := by omega
        go_wp2
        go_ret
        exact ⟨false, rfl, (fun h => by cases h), rfl⟩
      have c1' : ¬ ((1048576 : Int) < (g.cs.length : Int)) := by omega
      by_cases c2 : z + g.cs.length ≤ 1048576
      case neg =>
        have c2' : (1048576 : Int) < (z : Int) + (g.cs.length : Int) := by omega
        go_wp2
        go_ret
        exact ⟨false, rfl, (fun h => by cases h), rfl⟩
      have c2' : ¬ ((1048576 : Int) < (z : Int) + (g.cs.length : Int)) := by omega
      by_cases c3 : g.ts.length ≤ 1048576
      case neg =>
        have c3' : (1048576 : Int) < (g.ts.length : Int) := by omega
        go_wp2
        go_ret
        exact ⟨false, rfl, (fun h => by cases h), rfl⟩
      have c3' : ¬ ((1048576 : Int) < (g.ts.length : Int)) := by omega
      by_cases c4 : z + g.cs.length + g.ts.length ≤ 1048576
      case neg =>
        have c4' : (1048576 : Int) < (z : Int) + (g.cs.length : Int) + (g.ts.length : Int) := by omega
        go_wp2
        go_ret
        exact ⟨false, rfl, (fun h => by cases h), rfl⟩
      have c4' : ¬ ((1048576 : Int) < (z : Int) + (g.cs.length : Int) + (g.ts.length : Int)) := by omega
      go_wp2_with fail
      obtain ⟨wo, rfl⟩ : ∃ W, W = wr := ⟨_, rfl⟩
      go_loopw [19, 21] (fun x i W => W = wo ∧ ∃ j z' : Nat, j ≤ g.ts.length ∧ i = .int .i64 j ∧ x = .int .i64 z' ∧ z' ≤ 1048576 ∧ z + g.cs.length + g.ts.length ≤ z') (fun _ i _ => g.ts.length - (intOf i).toNat)
      case atStart => exact ⟨rfl, 0, z + g.cs.length + g.ts.length, Nat.zero_le _, rfl, by simp, c4, Nat.le_refl _⟩
      case round =>
        obtain ⟨rfl, j, z3, hj, rfl, rfl, hz3, hzz⟩ := hrel
        by_cases hjlt : j < g.ts.length
        · obtain ⟨q, hq⟩ : ∃ q, g.ts[j]? = some q := ⟨_, List.getElem?_eq_getElem hjlt⟩
          obtain ⟨b', o', eta, h2⟩ := Hid.out HR j q.cells (by simp [hq])
          rw [eta] at x2
          have y0 : wr.cell? ⟨b', o' + j * 3, none⟩ = some (.string q.typ) := h2 0 _ rfl
          have d1 : (0 : Int) ≤ (j : Int) := by omega
          have d2 : (j : Int) < (g.ts.length : Int) := by omega
          clear h2 hq eta HR
          by_cases e1 : q.typ.size ≤ 1048576
          case neg =>
            have e1' : (1048576 : Int) < (q.typ.size : Int) := by omega
            go_wp2
            go_ret
            exact ⟨false, rfl, (fun h => by cases h), rfl⟩
          have e1' : ¬ ((1048576 : Int) < (q.typ.size : Int)) := by omega
          by_cases e2 : z3 + q.typ.size ≤ 1048576
          case neg =>
            have e2' : (1048576 : Int) < (z3 : Int) + (q.typ.size : Int) := by omega
            go_wp2
            go_ret
            exact ⟨false, rfl, (fun h => by cases h), rfl⟩
          have e2' : ¬ ((1048576 : Int) < (z3 : Int) + (q.typ.size : Int)) := by omega
          go_wp2_with fail
          go_roundw
          case rel => exact ⟨trivial, j + 1, z3 + q.typ.size, hjlt, by go_num, by simp, e2, by omega⟩
          case measure => simp [intOf]; omega
        · obtain rfl : j = g.ts.length := by omega
          clear HR
          go_wp2_with fail
          go_roundw
          case rel =>
            refine ⟨trivial, k + 1, z3, hlt, by go_num, rfl, hz3, ?_, ?_⟩
            · have h1 := Hid.out HC
              have h2 := Hid.out HS
              simp only [lsum]
              omega
            · intro c hc
              rw [List.take_succ_eq_append_getElem hlt, Hid.out HE] at hc
              rcases List.mem_append.1 hc with h | h
              · exact Hid.out HA c h
              · rw [List.mem_singleton.1 h]; exact ⟨c1, c3⟩
          case measure => simp [intOf]; omega
    · obtain rfl : k = rgs.length := by omega
      rw [List.take_length] at hall
      have HA : Hid _ := hall
      have HS : Hid _ := hsum
      clear hr hrt hall hsum
      by_cases c1 : prior.length ≤ 1048576
      case neg =>
        have c1' : (1048576 : Int) < (prior.length : Int) := by omega
        go_wp2
        go_ret
        exact ⟨false, rfl, (fun h => by cases h), rfl⟩
      have c1' : ¬ ((1048576 : Int) < (prior.length : Int)) := by omega
      by_cases c2 : z + prior.length ≤ 1048576
      case neg =>
        have c2' : (1048576 : Int) < (z : Int) + (prior.length : Int) := by omega
        go_wp2
        go_ret
        exact ⟨false, rfl, (fun h => by cases h), rfl⟩
      have c2' : ¬ ((1048576 : Int) < (z : Int) + (prior.length : Int)) := by omega
      go_wp2_with fail
      obtain ⟨wo, rfl⟩ : ∃ W, W = wr := ⟨_, rfl⟩
      go_loopw [19, 22] (fun x i W => W = wo ∧ ∃ j z : Nat, j ≤ prior.length ∧ i = .int .i64 j ∧ x = .int .i64 z ∧ z ≤ 1048576) (fun _ i _ => prior.length - (intOf i).toNat)
      case atStart => exact ⟨rfl, 0, z + prior.length, Nat.zero_le _, rfl, by simp, c2⟩
      case round =>
        obtain ⟨rfl, j, z3, hj, rfl, rfl, hz3⟩ := hrel
        by_cases hjlt : j < prior.length
        · obtain ⟨q, hq⟩ : ∃ q, prior[j]? = some q := ⟨_, List.getElem?_eq_getElem hjlt⟩
          obtain ⟨b', o', rfl, h2⟩ := hrp j q.cells (by simp [hq])
          have y0 : wr.cell? ⟨b', o' + j * 10 + 5, none⟩ = some (.string q.typ) := h2 5 _ rfl
          have d1 : (0 : Int) ≤ (j : Int) := by omega
          have d2 : (j : Int) < (prior.length : Int) := by omega
          clear h2 hq hrp
          by_cases e1 : q.typ.size ≤ 1048576
          case neg =>
            have e1' : (1048576 : Int) < (q.typ.size : Int) := by omega
            go_wp2
            go_ret
            exact ⟨false, rfl, (fun h => by cases h), rfl⟩
          have e1' : ¬ ((1048576 : Int) < (q.typ.size : Int)) := by omega
          by_cases e2 : z3 + q.typ.size ≤ 1048576
          case neg =>
            have e2' : (1048576 : Int) < (z3 : Int) + (q.typ.size : Int) := by omega
            go_wp2
            go_ret
            exact ⟨false, rfl, (fun h => by cases h), rfl⟩
          have e2' : ¬ ((1048576 : Int) < (z3 : Int) + (q.typ.size : Int)) := by omega
          go_wp2_with fail
          go_roundw
          case rel => exact ⟨trivial, j + 1, z3 + q.typ.size, hjlt, by go_num, by simp, e2⟩
          case measure => simp [intOf]; omega
        · obtain rfl : j = prior.length := by omega
          clear hrp
          by_cases e1 : typ.size ≤ 1048576
          case neg =>
            have e1' : (1048576 : Int) < (typ.size : Int) := by omega
            go_wp2
            go_ret
            exact ⟨false, rfl, (fun h => by cases h), rfl⟩
          have e1' : ¬ ((1048576 : Int) < (typ.size : Int)) := by omega
          by_cases e2 : z3 + typ.size ≤ 1048576
          case neg =>
            have e2' : (1048576 : Int) < (z3 : Int) + (typ.size : Int) := by omega
            go_wp2
            go_ret
            exact ⟨false, rfl, (fun h => by cases h), rfl⟩
          have e2' : ¬ ((1048576 : Int) < (z3 : Int) + (typ.size : Int)) := by omega
          by_cases e3 : ol ≤ 1048576
          case neg =>
            have e3' : (1048576 : Int) < (ol : Int) := by omega
            go_wp2
            go_ret
            exact ⟨false, rfl, (fun h => by cases h), rfl⟩
          have e3' : ¬ ((1048576 : Int) < (ol : Int)) := by omega
          by_cases e4 : z3 + typ.size + ol ≤ 1048576
          case neg =>
            have e4' : (1048576 : Int) < (z3 : Int) + (typ.size : Int) + (ol : Int) := by omega
            go_wp2
            go_ret
            exact ⟨false, rfl, (fun h => by cases h), rfl⟩
          have e4' : ¬ ((1048576 : Int) < (z3 : Int) + (typ.size : Int) + (ol : Int)) := by omega
          go_wp2
          go_ret
          exact ⟨true, rfl, fun _ => ⟨hn, c1, e3, Hid.out HA, Nat.le_trans (Hid.out HS) hz⟩, rfl⟩
end Go.Proofs.Qxb6608902a
