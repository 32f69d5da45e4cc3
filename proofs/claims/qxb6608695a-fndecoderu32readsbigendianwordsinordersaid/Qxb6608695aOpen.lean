import Derived.Test.Qxb6608695aBase
import Derived.ProofKit
import Derived.OpenShut
namespace Go.Proofs.Qxb6608695a
open Go.ChangeShapes Go.WideShapes Go.ChangeAt Go.RowKit
theorem Try.cells5 : Try.prog.cellsOf 5 = 1 := by kernel_rfl
theorem open_arr {H : Type} {enc : TypeId × Value → H} {W : World} {r : Reach} {base base' n T : Nat} {v : Value} {d : DataW H} {p : List MemPlace} {b1 : Bool} (hT : Try.prog.underlying T = some (.array n 5)) (hc : Try.prog.cellsOf T = n)
    (hv : Value.okWide Try.prog W r base T v) (h : DataW.Trod enc Try.prog W base' (fun _ => true) b1 T v d p) : ∃ zs : List Int, v = .agg (bytesOf zs).toArray ∧ zs.length = n := by
  unfold Value.okWide at hv
  rw [hT] at hv
  obtain ⟨cs, rfl, hs, _⟩ := hv
  obtain ⟨fuel, hf⟩ := h
  obtain ⟨xs, m, rfl, _, hl, hxs, hel⟩ := DataW.trod_array hT hf
  have hcs : cs.size = n := by rw [hs, hc]
  have key : ∀ i (hi : i < n), ∃ z : Int, cs.toList[i]? = some (.int .u8 z) := fun i hi => by
    have h1 := hel i hi
    obtain ⟨y, hy⟩ : ∃ y, xs[i]? = some y := ⟨xs[i]'(by omega), by simp [hxs, hi]⟩
    rw [hy, Try.cells5] at h1
    obtain ⟨z, hz, _, _⟩ := DataW.trod_int Try.underlying5 h1
    refine ⟨z, ?_⟩
    have h2 := congrArg (fun l => l[0]?) hz
    simpa [Value.cells] using h2
  refine ⟨cs.toList.map intOf, ?_, by simp [hs, hc]⟩
  congr 1
  apply Array.ext_getElem?
  intro i
  by_cases hi : i < n
  · obtain ⟨z, hz⟩ := key i hi
    have hz' : cs[i]? = some (.int .u8 z) := by simpa using hz
    simp [bytesOf, hz', intOf]
  · have h1 : (bytesOf (cs.toList.map intOf)).toArray.size = n := by simp [bytesOf, hcs]
    rw [Array.getElem?_eq_none (by omega), Array.getElem?_eq_none (by omega)]

theorem own : ownKnob Try.prog.godebug = none := by kernel_rfl
theorem laidOut : laidOutB Try.prog = true := by kernel_rfl

/-- What a slice of bytes that came in leads to. -/
theorem open_bytes {H : Type} {enc : TypeId × Value → H} {W : World} {base : Nat} {a : Option Addr} {len cap : Nat} {d : DataW H} {p : List MemPlace} {b1 : Bool} (h : DataW.Trod enc Try.prog W base (fun _ => true) b1 22 (.slice a len cap) d p) :
    ∃ zs : List Int, zs.length = len ∧ len ≤ maxLen ∧ (a = none → cap = 0) ∧ Bd W a zs ∧ ∀ n ∈ zs, (Lit.int .u8 n).wf = true := by
  obtain ⟨fuel, hf⟩ := h
  rcases open_ints Try.underlying22 Try.underlying5 Try.cells5 hf with ⟨hcs, _⟩ | ⟨x, l, c, zs, hcs, _, hl, hm, hz, _, hcell, hwz⟩
  · simp [Value.cells] at hcs
    obtain ⟨rfl, rfl, rfl⟩ := hcs
    exact ⟨[], rfl, by unfold maxLen; omega, fun _ => rfl, Bd.nil _ _, by simp⟩
  · simp [Value.cells] at hcs
    obtain ⟨rfl, rfl, rfl⟩ := hcs
    have hz' : zs.length = cap := by simpa using hz
    refine ⟨zs.take len, by simp; omega, by omega, (fun h => by cases h), ?_, fun n hn => hwz n (List.mem_of_mem_take hn)⟩
    exact Bd.take (fun i hi => ⟨_, rfl, hcell i hi⟩) len
end Go.Proofs.Qxb6608695a
