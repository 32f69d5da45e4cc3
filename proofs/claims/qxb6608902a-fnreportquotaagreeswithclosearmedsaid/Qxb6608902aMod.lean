import Derived.Test.Qxb6608902aPln
namespace Go.Proofs.Qxb6608902a
open Go.RowKit
def nilT (g : Rg) : Rg := { g with ta := none, tc := 0, ts := [] }
/-- The copy, its first j rows laid. -/
def ModOK (rgs : List Rg) (cs : Array Value) (j : Nat) : Prop := cs.size = rgs.length * 6 ∧ ∀ (t : Nat) (g : Rg), t < j → rgs[t]? = some g → ∀ (q : Nat) (v : Value), (nilT g).cells[q]? = some v → cs[t * 6 + q]? = some v

def modSet (cs : Array Value) (j : Nat) (q : Rg) : Array Value := ((((((cs.setIfInBounds (j * 6) (.int .u32 q.id)).setIfInBounds (j * 6 + 1) (.slice q.ca q.cs.length q.cc)).setIfInBounds (j * 6 + 2) (.slice q.ta q.ts.length q.tc)).setIfInBounds (j * 6 + 3) (.bool q.hg)).setIfInBounds (j * 6 + 4) (.bool q.ex)).setIfInBounds (j * 6 + 5) (.bool q.te)).setIfInBounds (j * 6 + 2) (.slice none 0 0)

theorem ModOK.step {rgs : List Rg} {cs : Array Value} {j : Nat} {q : Rg} (h : ModOK rgs cs j) (hq : rgs[j]? = some q) : ModOK rgs (modSet cs j q) (j + 1) := by
  obtain ⟨h1, h2⟩ := h
  have hj : j < rgs.length := (List.getElem?_eq_some_iff.1 hq).1
  refine ⟨by simp [modSet, h1], ?_⟩
  intro t g ht hg x v hx
  have hx6 : x < 6 := by have := (List.getElem?_eq_some_iff.1 hx).1; simpa [Rg.cells] using this
  by_cases e : t = j
  · subst e
    rw [hq] at hg; cases hg
    have hc : ∀ y, y < 6 → t * 6 + y < cs.size := by intro y hy; omega
    obtain rfl | rfl | rfl | rfl | rfl | rfl : x = 0 ∨ x = 1 ∨ x = 2 ∨ x = 3 ∨ x = 4 ∨ x = 5 := by omega
    all_goals
      simp only [Rg.cells, nilT, List.getElem?_cons_succ, List.getElem?_cons_zero, Option.some.injEq] at hx
      subst hx
      have := hc 0 (by omega)
      have := hc 5 (by omega)
      simp [modSet, Array.getElem?_setIfInBounds]
      omega
  · have hne : ∀ y, y < 6 → j * 6 + y ≠ t * 6 + x := by intro y hy; omega
    have h0 := hne 0 (by omega)
    have := h2 t g (by omega) hg x v hx
    simp only [modSet]
    rw [Array.getElem?_setIfInBounds_ne (hne 2 (by omega)), Array.getElem?_setIfInBounds_ne (hne 5 (by omega)), Array.getElem?_setIfInBounds_ne (hne 4 (by omega)), Array.getElem?_setIfInBounds_ne (hne 3 (by omega)), Array.getElem?_setIfInBounds_ne (hne 2 (by omega)), Array.getElem?_setIfInBounds_ne (hne 1 (by omega)), Array.getElem?_setIfInBounds_ne (by omega)]
    exact this

/-- The copy's groups: no trigger but one, on group i. -/
def modRg (i : Nat) (typ : ByteArray) (T : Nat) (k : Nat) (g : Rg) : Rg := if k = i then { g with ta := some ⟨T, 0, none⟩, tc := 1, ts := [⟨typ, 2, 0⟩] } else nilT g
def mods (rgs : List Rg) (i : Nat) (typ : ByteArray) (T : Nat) : List Rg := rgs.mapIdx (modRg i typ T)

theorem mods_get (rgs : List Rg) (i : Nat) (typ : ByteArray) (T k : Nat) : (mods rgs i typ T)[k]? = (rgs[k]?).map (modRg i typ T k) := by simp [mods]
theorem mods_length (rgs : List Rg) (i : Nat) (typ : ByteArray) (T : Nat) : (mods rgs i typ T).length = rgs.length := by simp [mods]

theorem modRg_cs (i : Nat) (typ : ByteArray) (T k : Nat) (g : Rg) : (modRg i typ T k g).cs = g.cs ∧ (modRg i typ T k g).ca = g.ca ∧ (modRg i typ T k g).cc = g.cc ∧ (modRg i typ T k g).id = g.id ∧ (modRg i typ T k g).hg = g.hg ∧ (modRg i typ T k g).ex = g.ex ∧ (modRg i typ T k g).te = g.te := by
  unfold modRg nilT; split <;> simp

theorem rd_mods {W : World} {M T i : Nat} {typ : ByteArray} {rgs : List Rg} {cs : Array Value} (h : ModOK rgs cs rgs.length) (hi : i < rgs.length) (hW : W.heap[M]? = some (.cells (cs.setIfInBounds (i * 6 + 2) (.slice (some ⟨T, 0, none⟩) 1 1)) 51)) : Rd W (some ⟨M, 0, none⟩) 6 ((mods rgs i typ T).map Rg.cells) := by
  intro t c ht
  obtain ⟨g, hg, rfl⟩ : ∃ g, rgs[t]? = some g ∧ (modRg i typ T t g).cells = c := by
    simp only [List.getElem?_map, mods_get, Option.map_map, Option.map_eq_some_iff] at ht
    exact ht
  have htl : t < rgs.length := (List.getElem?_eq_some_iff.1 hg).1
  refine ⟨M, 0, rfl, fun q v hv => ?_⟩
  have hq6 : q < 6 := by have := (List.getElem?_eq_some_iff.1 hv).1; simpa [Rg.cells] using this
  rw [cell_of_row _ _ _ _ _ _ hW, Nat.zero_add]
  have hsz := h.1
  by_cases e : t = i ∧ q = 2
  · obtain ⟨rfl, rfl⟩ := e
    simp only [modRg, if_pos, Rg.cells, List.getElem?_cons_succ, List.getElem?_cons_zero, Option.some.injEq] at hv
    subst hv
    rw [Array.getElem?_setIfInBounds_self_of_lt (by omega)]
    rfl
  · rw [Array.getElem?_setIfInBounds_ne (by omega)]
    refine h.2 t g htl hg q v ?_
    rw [← hv]
    by_cases e' : t = i
    · have hq2 : q ≠ 2 := fun h => e ⟨e', h⟩
      obtain rfl | rfl | rfl | rfl | rfl : q = 0 ∨ q = 1 ∨ q = 3 ∨ q = 4 ∨ q = 5 := by omega
      all_goals simp [modRg, e', nilT, Rg.cells]
    · simp [modRg, e']
end Go.Proofs.Qxb6608902a
