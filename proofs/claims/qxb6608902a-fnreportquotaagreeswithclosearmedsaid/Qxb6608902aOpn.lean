import Derived.Test.Qxb6608902aBld
import Derived.WalkKit
import Derived.ProofKit
import Derived.OpenShut
import Derived.Deep.Slices
namespace Go.Proofs.Qxb6608902a
open Go.ChangeShapes Go.WideShapes Go.ChangeAt Go.RowKit

theorem addr_add (b o n : Nat) : (⟨b, o, none⟩ : Addr).add n = ⟨b, o + n, none⟩ := by
  unfold Addr.add
  split
  · rename_i h; subst h; rfl
  · rfl
theorem spot_none {w : World} {a : Addr} {v : Value} (h : w.cell? a = some v) : a.spot = none := by
  unfold World.cell? at h
  split at h
  · split at h
    · cases h
    · rename_i hs
      cases hh : a.spot with
      | none => rfl
      | some x => rw [hh] at hs; simp at hs
  · cases h

section
variable {H : Type} {enc : TypeId × Value → H} {W : World} {base : Nat} {sp : Nat → Bool} {hd : Bool}

theorem rd_open {α : Type} [Inhabited α] (cells : α → List Value) (Q : α → Prop) {t e : TypeId} {size : Nat} (ht : Try.prog.underlying t = some (.slice e)) (hc : Try.prog.cellsOf e = size) (hpos : 0 < size)
    (hel : ∀ n cs' y, DataW.trod enc Try.prog W base sp hd n e cs' = some y → ∃ x : α, cs' = cells x ∧ Q x)
    {fuel : Nat} {a : Option Addr} {len cap : Nat} {x : DataW H × List MemPlace} (h : DataW.trod enc Try.prog W base sp hd fuel t [.slice a len cap] = some x) :
    ∃ xs : List α, xs.length = len ∧ (a = none → xs = [] ∧ cap = 0) ∧ Rd W a size (xs.map cells) ∧ ∀ x ∈ xs, Q x := by
  rcases Go.Deep.open_slice ht h with ⟨hcs, _⟩ | ⟨ad, l, c, m, n, D, Pl, hcs, _, hl, hmx, hm, _, hx⟩
  · simp only [List.cons.injEq, Value.slice.injEq, and_true] at hcs
    obtain ⟨rfl, rfl, rfl⟩ := hcs
    exact ⟨[], rfl, fun _ => ⟨rfl, rfl⟩, (fun i c h => by simp at h), by simp⟩
  · simp only [List.cons.injEq, Value.slice.injEq, and_true] at hcs
    obtain ⟨rfl, rfl, rfl⟩ := hcs
    have hlm : len ≤ m := by rw [hm]; split <;> omega
    rw [hc] at hx
    obtain ⟨f, hf⟩ := Go.Deep.choose_lt (α := α) (n := len) (p := fun i x => W.cells? base (ad.add (i * size)) size = some (cells x) ∧ Q x) (fun i hi => by
      obtain ⟨cs', h1, h2⟩ := hx i (by omega)
      obtain ⟨y, rfl, hq⟩ := hel _ _ _ h2
      exact ⟨y, h1, hq⟩)
    refine ⟨(List.range len).map f, by simp, (fun h => by cases h), ?_, ?_⟩
    · intro i c hi
      have hil : i < len := by
        have := (List.getElem?_eq_some_iff.1 hi).1
        simpa using this
      have hci : cells (f i) = c := by
        simp [hil] at hi
        exact hi
      subst hci
      have hsp : ad.spot = none := by
        obtain ⟨_, hl0, hc0⟩ := World.cells?_some (hf 0 (by omega)).1
        have h0 := hc0 0 hpos
        rw [Nat.zero_mul, List.getElem?_eq_getElem (by omega)] at h0
        exact spot_none h0
      obtain ⟨b, o, s⟩ := ad
      dsimp only at hsp
      subst hsp
      refine ⟨b, o, rfl, fun q v hv => ?_⟩
      obtain ⟨_, hl1, hc1⟩ := World.cells?_some (hf i hil).1
      have hq : q < size := by
        have := (List.getElem?_eq_some_iff.1 hv).1
        omega
      have h1 := hc1 q hq
      rw [addr_add, addr_add] at h1
      rw [h1, hv]
    · intro y hy
      obtain ⟨i, hi, rfl⟩ := List.mem_map.1 hy
      exact (hf i (List.mem_range.1 hi)).2

theorem take_one {cs : List Value} {off : Nat} {v : Value} (h : (cs.drop off).take 1 = [v]) : cs[off]? = some v := by
  have := congrArg (fun l => l[0]?) h
  simpa [List.getElem?_take] using this

theorem fld_int {f : Field} {t : TypeId} {k : IntKind} {off m i : Nat} {cs : List Value} {xs : List (DataW H × List MemPlace)} (h : DataW.trod enc Try.prog W base sp hd m f.type ((cs.drop f.offset).take (Try.prog.cellsOf f.type)) = xs[i]?) (hi : i < xs.length) (ht : f.type = t) (ho : f.offset = off) (hu : Try.prog.underlying t = some (.int k)) (hc : Try.prog.cellsOf t = 1) : ∃ z, cs[off]? = some (.int k z) ∧ (Lit.int k z).wf = true := by
  subst ht ho
  rw [hc, List.getElem?_eq_getElem hi] at h
  obtain ⟨z, hz, _, hw⟩ := DataW.trod_int hu h
  exact ⟨z, take_one hz, hw⟩
theorem fld_bool {f : Field} {t : TypeId} {off m i : Nat} {cs : List Value} {xs : List (DataW H × List MemPlace)} (h : DataW.trod enc Try.prog W base sp hd m f.type ((cs.drop f.offset).take (Try.prog.cellsOf f.type)) = xs[i]?) (hi : i < xs.length) (ht : f.type = t) (ho : f.offset = off) (hu : Try.prog.underlying t = some .bool) (hc : Try.prog.cellsOf t = 1) : ∃ z, cs[off]? = some (.bool z) := by
  subst ht ho
  rw [hc, List.getElem?_eq_getElem hi] at h
  obtain ⟨z, hz, _⟩ := DataW.trod_bool hu h
  exact ⟨z, take_one hz⟩
theorem fld_str {f : Field} {t : TypeId} {off m i : Nat} {cs : List Value} {xs : List (DataW H × List MemPlace)} (h : DataW.trod enc Try.prog W base sp hd m f.type ((cs.drop f.offset).take (Try.prog.cellsOf f.type)) = xs[i]?) (hi : i < xs.length) (ht : f.type = t) (ho : f.offset = off) (hu : Try.prog.underlying t = some .string) (hc : Try.prog.cellsOf t = 1) : ∃ z, cs[off]? = some (.string z) := by
  subst ht ho
  rw [hc, List.getElem?_eq_getElem hi] at h
  obtain ⟨z, hz, _⟩ := DataW.trod_string hu h
  exact ⟨z, take_one hz⟩
theorem fld_slice {f : Field} {t e : TypeId} {off m i : Nat} {cs : List Value} {xs : List (DataW H × List MemPlace)} (h : DataW.trod enc Try.prog W base sp hd m f.type ((cs.drop f.offset).take (Try.prog.cellsOf f.type)) = xs[i]?) (hi : i < xs.length) (ht : f.type = t) (ho : f.offset = off) (hu : Try.prog.underlying t = some (.slice e)) (hc : Try.prog.cellsOf t = 1) : ∃ a l c y, cs[off]? = some (.slice a l c) ∧ DataW.trod enc Try.prog W base sp hd m t [.slice a l c] = some y := by
  subst ht ho
  rw [hc, List.getElem?_eq_getElem hi] at h
  rcases Go.Deep.open_slice hu h with ⟨hcs, _⟩ | ⟨ad, l, c, _, _, _, _, hcs, _⟩
  · rw [hcs] at h
    exact ⟨none, 0, 0, _, take_one hcs, h⟩
  · rw [hcs] at h
    exact ⟨some ad, l, c, _, take_one hcs, h⟩

theorem Try.cells22 : Try.prog.cellsOf 22 = 1 := by kernel_rfl
theorem Try.cells4 : Try.prog.cellsOf 4 = 1 := by kernel_rfl
theorem Try.cells5 : Try.prog.cellsOf 5 = 1 := by kernel_rfl
theorem Try.cells35 : Try.prog.cellsOf 35 = 1 := by kernel_rfl
theorem Try.cells3 : Try.prog.cellsOf 3 = 1 := by kernel_rfl
theorem Try.cells2 : Try.prog.cellsOf 2 = 1 := by kernel_rfl
theorem Try.cells9 : Try.prog.cellsOf 9 = 1 := by kernel_rfl
theorem Try.cells48 : Try.prog.cellsOf 48 = 1 := by kernel_rfl
theorem Try.cells49 : Try.prog.cellsOf 49 = 1 := by kernel_rfl
theorem Try.cells66 : Try.prog.cellsOf 66 = 5 := by kernel_rfl
theorem Try.cells53 : Try.prog.cellsOf 53 = 3 := by kernel_rfl
theorem Try.cells51 : Try.prog.cellsOf 51 = 6 := by kernel_rfl
theorem Try.cells74 : Try.prog.cellsOf 74 = 10 := by kernel_rfl

theorem len3 {cs : List Value} {v0 v1 v2 : Value} (hl : cs.length = 3) (e0 : cs[0]? = some v0) (e1 : cs[1]? = some v1) (e2 : cs[2]? = some v2) : cs = [v0, v1, v2] := by
  match cs, hl with
  | [u0, u1, u2], _ => simp at e0 e1 e2; simp [e0, e1, e2]
theorem len5 {cs : List Value} {v0 v1 v2 v3 v4 : Value} (hl : cs.length = 5) (e0 : cs[0]? = some v0) (e1 : cs[1]? = some v1) (e2 : cs[2]? = some v2) (e3 : cs[3]? = some v3) (e4 : cs[4]? = some v4) : cs = [v0, v1, v2, v3, v4] := by
  match cs, hl with
  | [u0, u1, u2, u3, u4], _ => simp at e0 e1 e2 e3 e4; simp [e0, e1, e2, e3, e4]
theorem len6 {cs : List Value} {v0 v1 v2 v3 v4 v5 : Value} (hl : cs.length = 6) (e0 : cs[0]? = some v0) (e1 : cs[1]? = some v1) (e2 : cs[2]? = some v2) (e3 : cs[3]? = some v3) (e4 : cs[4]? = some v4) (e5 : cs[5]? = some v5) : cs = [v0, v1, v2, v3, v4, v5] := by
  match cs, hl with
  | [u0, u1, u2, u3, u4, u5], _ => simp at e0 e1 e2 e3 e4 e5; simp [e0, e1, e2, e3, e4, e5]
theorem len10 {cs : List Value} {v0 v1 v2 v3 v4 v5 v6 v7 v8 v9 : Value} (hl : cs.length = 10) (e0 : cs[0]? = some v0) (e1 : cs[1]? = some v1) (e2 : cs[2]? = some v2) (e3 : cs[3]? = some v3) (e4 : cs[4]? = some v4) (e5 : cs[5]? = some v5) (e6 : cs[6]? = some v6) (e7 : cs[7]? = some v7) (e8 : cs[8]? = some v8) (e9 : cs[9]? = some v9) : cs = [v0, v1, v2, v3, v4, v5, v6, v7, v8, v9] := by
  match cs, hl with
  | [u0, u1, u2, u3, u4, u5, u6, u7, u8, u9], _ => simp at e0 e1 e2 e3 e4 e5 e6 e7 e8 e9; simp [e0, e1, e2, e3, e4, e5, e6, e7, e8, e9]

theorem u8_nonneg {z : Int} (h : (Lit.int .u8 z).wf = true) : 0 ≤ z := by
  have h1 : IntKind.u8.min = 0 := rfl
  simp [Lit.wf] at h
  omega

instance : Inhabited Ct := ⟨⟨0, false, 0, 0, 0⟩⟩
instance : Inhabited Tg := ⟨⟨⟨#[]⟩, 0, 0⟩⟩
instance : Inhabited Rc := ⟨⟨0, false, 0, 0, 0, ⟨#[]⟩, 0, 0, 0, 0⟩⟩
instance : Inhabited Rg := ⟨⟨0, none, 0, [], none, 0, [], false, false, false⟩⟩

theorem el66 (n : Nat) (cs : List Value) (y : DataW H × List MemPlace) (h : DataW.trod enc Try.prog W base sp hd n 66 cs = some y) : ∃ x : Ct, cs = x.cells ∧ 0 ≤ x.m := by
  obtain ⟨xs, m, _, _, hl, hxs, hf⟩ := DataW.trod_struct Try.underlying66 h
  rw [Try.cells66] at hl
  have hx : xs.length = 5 := hxs
  obtain ⟨z0, e0, _⟩ := fld_int (hf 0 _ rfl) (by omega) rfl rfl Try.underlying22 Try.cells22
  obtain ⟨z1, e1⟩ := fld_bool (hf 1 _ rfl) (by omega) rfl rfl Try.underlying4 Try.cells4
  obtain ⟨z2, e2, w2⟩ := fld_int (hf 2 _ rfl) (by omega) rfl rfl Try.underlying5 Try.cells5
  obtain ⟨z3, e3, _⟩ := fld_int (hf 3 _ rfl) (by omega) rfl rfl Try.underlying35 Try.cells35
  obtain ⟨z4, e4, _⟩ := fld_int (hf 4 _ rfl) (by omega) rfl rfl Try.underlying35 Try.cells35
  refine ⟨⟨z0, z1, z2, z3, z4⟩, ?_, u8_nonneg w2⟩
  exact len5 hl e0 e1 e2 e3 e4
theorem el53 (n : Nat) (cs : List Value) (y : DataW H × List MemPlace) (h : DataW.trod enc Try.prog W base sp hd n 53 cs = some y) : ∃ x : Tg, cs = x.cells ∧ True := by
  obtain ⟨xs, m, _, _, hl, hxs, hf⟩ := DataW.trod_struct Try.underlying53 h
  rw [Try.cells53] at hl
  have hx : xs.length = 3 := hxs
  obtain ⟨z0, e0⟩ := fld_str (hf 0 _ rfl) (by omega) rfl rfl Try.underlying9 Try.cells9
  obtain ⟨z1, e1, _⟩ := fld_int (hf 1 _ rfl) (by omega) rfl rfl Try.underlying5 Try.cells5
  obtain ⟨z2, e2, _⟩ := fld_int (hf 2 _ rfl) (by omega) rfl rfl Try.underlying5 Try.cells5
  refine ⟨⟨z0, z1, z2⟩, ?_, trivial⟩
  exact len3 hl e0 e1 e2
theorem el74 (n : Nat) (cs : List Value) (y : DataW H × List MemPlace) (h : DataW.trod enc Try.prog W base sp hd n 74 cs = some y) : ∃ x : Rc, cs = x.cells ∧ True := by
  obtain ⟨xs, m, _, _, hl, hxs, hf⟩ := DataW.trod_struct Try.underlying74 h
  rw [Try.cells74] at hl
  have hx : xs.length = 10 := hxs
  obtain ⟨z0, e0, _⟩ := fld_int (hf 0 _ rfl) (by omega) rfl rfl Try.underlying22 Try.cells22
  obtain ⟨z1, e1⟩ := fld_bool (hf 1 _ rfl) (by omega) rfl rfl Try.underlying4 Try.cells4
  obtain ⟨z2, e2, _⟩ := fld_int (hf 2 _ rfl) (by omega) rfl rfl Try.underlying5 Try.cells5
  obtain ⟨z3, e3, _⟩ := fld_int (hf 3 _ rfl) (by omega) rfl rfl Try.underlying22 Try.cells22
  obtain ⟨z4, e4, _⟩ := fld_int (hf 4 _ rfl) (by omega) rfl rfl Try.underlying3 Try.cells3
  obtain ⟨z5, e5⟩ := fld_str (hf 5 _ rfl) (by omega) rfl rfl Try.underlying9 Try.cells9
  obtain ⟨z6, e6, _⟩ := fld_int (hf 6 _ rfl) (by omega) rfl rfl Try.underlying5 Try.cells5
  obtain ⟨z7, e7, _⟩ := fld_int (hf 7 _ rfl) (by omega) rfl rfl Try.underlying2 Try.cells2
  obtain ⟨z8, e8, _⟩ := fld_int (hf 8 _ rfl) (by omega) rfl rfl Try.underlying35 Try.cells35
  obtain ⟨z9, e9, _⟩ := fld_int (hf 9 _ rfl) (by omega) rfl rfl Try.underlying35 Try.cells35
  refine ⟨⟨z0, z1, z2, z3, z4, z5, z6, z7, z8, z9⟩, ?_, trivial⟩
  exact len10 hl e0 e1 e2 e3 e4 e5 e6 e7 e8 e9
theorem el22 (n : Nat) (cs : List Value) (y : DataW H × List MemPlace) (h : DataW.trod enc Try.prog W base sp hd n 22 cs = some y) : ∃ x : Int, cs = [.int .u32 x] ∧ True := by
  obtain ⟨z, hz, _, _⟩ := DataW.trod_int Try.underlying22 h
  exact ⟨z, hz, trivial⟩
theorem el51 (n : Nat) (cs : List Value) (y : DataW H × List MemPlace) (h : DataW.trod enc Try.prog W base sp hd n 51 cs = some y) : ∃ x : Rg, cs = x.cells ∧ (Rd W x.ca 5 (x.cs.map Ct.cells) ∧ (∀ c ∈ x.cs, 0 ≤ c.m) ∧ Rd W x.ta 3 (x.ts.map Tg.cells)) := by
  obtain ⟨xs, m, _, _, hl, hxs, hf⟩ := DataW.trod_struct Try.underlying51 h
  rw [Try.cells51] at hl
  have hx : xs.length = 6 := hxs
  obtain ⟨z0, e0, _⟩ := fld_int (hf 0 _ rfl) (by omega) rfl rfl Try.underlying22 Try.cells22
  obtain ⟨a1, l1, c1, y1, e1, t1⟩ := fld_slice (hf 1 _ rfl) (by omega) rfl rfl Try.underlying48 Try.cells48
  obtain ⟨a2, l2, c2, y2, e2, t2⟩ := fld_slice (hf 2 _ rfl) (by omega) rfl rfl Try.underlying49 Try.cells49
  obtain ⟨z3, e3⟩ := fld_bool (hf 3 _ rfl) (by omega) rfl rfl Try.underlying4 Try.cells4
  obtain ⟨z4, e4⟩ := fld_bool (hf 4 _ rfl) (by omega) rfl rfl Try.underlying4 Try.cells4
  obtain ⟨z5, e5⟩ := fld_bool (hf 5 _ rfl) (by omega) rfl rfl Try.underlying4 Try.cells4
  obtain ⟨ks, hk1, _, hk2, hk3⟩ := rd_open Ct.cells (fun c => 0 ≤ c.m) Try.underlying48 Try.cells66 (by omega) el66 t1
  obtain ⟨ts, ht1, _, ht2, _⟩ := rd_open Tg.cells (fun _ => True) Try.underlying49 Try.cells53 (by omega) el53 t2
  refine ⟨⟨z0, a1, c1, ks, a2, c2, ts, z3, z4, z5⟩, ?_, hk2, hk3, ht2⟩
  rw [← hk1] at e1
  rw [← ht1] at e2
  exact len6 hl e0 e1 e2 e3 e4 e5
end
end Go.Proofs.Qxb6608902a
