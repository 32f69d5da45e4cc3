import Derived.Test.Qxb6608902aLast
import Derived.OrdersIn
import Derived.OwnWalkIn
namespace Go.Proofs.Qxb6608902a
open Go

section
variable {F : Fence} {n : Nat} {P : Program} {ops : Array Oper} {Q : Exit → Act → World → Prop} {md : Region.Mode} {S : World → Prop} {k : Nat}

/-- No operation of the region is a defer statement. -/
def noDefer (ops : Array Oper) : Bool := ops.all fun o => match o.op with | .defer _ => false | _ => true
theorem noDefer_spec (h : noDefer ops = true) (j : Nat) (o : Oper) (hj : ops[j]? = some o) : ∀ c, o.op ≠ .defer c := by
  intro c hc
  have := (Array.all_eq_true'.1 h) o (Array.mem_of_getElem? hj)
  rw [hc] at this
  cases this

/-- 'YieldsIf', and it is about to make no call. -/
def YieldsG (P : Program) (ops : Array Oper) (S : World → Prop) (o : Oper) (v : Value) (a : Act) : Prop := YieldsIf P ops S o v a ∧ ∀ w, o.about P w a.eval = none

theorem YieldsG.wpOpIn {i : Nat} {o : Oper} {v : Value} {a : Act} (hnd : ∀ c, o.op ≠ .defer c) (hi : ops[i]? = some o) (hy : YieldsG P ops S o v a)
    {K : Act → World → Prop} {w : World} (hS : S w) (h : K (a.put o.dst v) w) : wpOpIn F n P ops Q i K a w := by
  unfold Go.wpOpIn
  simp only [hi]
  have hab : ∀ f, o.about P w a.eval = some f → F.fn f := fun f hf => by rw [hy.2 w] at hf; cases hf
  rcases hy.1 with ⟨hw, hv⟩ | ⟨hw, rfl⟩
  · simp only [hw, if_true, Oper.wpIn, Oper.semAt_eq _ _ _ hnd, hv w hS, Oper.uponIn]; exact ⟨hab, h⟩
  · simp only [hw, Bool.false_eq_true, if_false]; exact ⟨hab, h⟩

theorem YieldsG.of_same {o : Oper} {v : Value} {a a' : Act} (hy : YieldsG P ops S o v a) (he : execOp a'.eval o = execOp a.eval o)
    (hw : Region.wanted o (yielded ops a'.tmps) = Region.wanted o (yielded ops a.tmps)) (hb : ∀ w, o.about P w a'.eval = o.about P w a.eval) : YieldsG P ops S o v a' :=
  ⟨hy.1.of_same he hw, fun w => by rw [hb w]; exact hy.2 w⟩

theorem wpOpIn_putG {j : Nat} {oi oj : Oper} {v : Value} (hnd : ∀ c, oj.op ≠ .defer c) (hj : ops[j]? = some oj) (hap : oi.apart ops oj = true)
    (hsi : ∀ cs b, oi.op ≠ .select cs b) (hsj : ∀ cs b, oj.op ≠ .select cs b)
    (hQ : ∀ c a w, Q (.panic c) (a.put oi.dst v) w → Q (.panic c) a w) {K : Act → World → Prop} {a : Act} {w : World}
    (hy : YieldsG P ops S oi v a) (h : wpOpIn F n P ops Q j K (a.put oi.dst v) w) :
    wpOpIn F n P ops Q j (fun a' w' => YieldsG P ops S oi v a' ∧ K (a'.put oi.dst v) w') a w := by
  obtain ⟨h1, h2, h3⟩ := Oper.apart_spec hap
  have keep : ∀ (a : Act), YieldsG P ops S oi v a → ∀ u, YieldsG P ops S oi v (a.put oj.dst u) := fun a hy u =>
    hy.of_same (execOp_put oi hsi a oj.dst u h3) (wanted_put oi a oj.dst u h3) (fun w => about_put oi w a oj.dst u h3)
  have keepD : ∀ d, YieldsG P ops S oi v { a with defers := d :: a.defers } := fun d => hy.of_same rfl rfl (fun _ => rfl)
  unfold wpOpIn at *
  simp only [hj] at *
  rw [wanted_put oj a oi.dst v h1, about_put oj w a oi.dst v h1] at h
  split
  · rename_i hw
    simp only [hw, if_true] at h
    unfold Oper.wpIn at *
    rw [about_put oj w a oi.dst v h1] at h
    refine ⟨h.1, ?_⟩
    have h := h.2
    rw [Oper.semAt_eq _ _ _ hnd, execOp_put oj hsj a oi.dst v h1] at h
    rw [Oper.semAt_eq _ _ _ hnd]
    generalize (execOp a.eval oj).run P w = r at *
    cases r with
    | ok x w' =>
      cases x <;> simp only [Oper.uponIn] at h ⊢
      case value u => exact ⟨keep a hy u, by rw [← Act.put_comm a v u h2]; exact h⟩
      case skip => exact ⟨keep a hy _, by rw [← Act.put_comm a v undef h2]; exact h⟩
      case defer d =>
        refine ⟨keep _ (keepD d) _, ?_⟩
        rw [← Act.put_comm _ v undef h2, ← Act.put_defers]
        exact h
      case enter f args =>
        refine ⟨h.1, CallsIn.mono h.2 fun e w'' he => ?_⟩
        cases e with
        | returned u => exact ⟨keep a hy u, by rw [← Act.put_comm a v u h2]; exact he⟩
        | panicked c => exact hQ _ _ _ he
        | outgrown => exact he
      case row row args => exact ⟨h.1, RowsIn.mono h.2 fun u w'' he => ⟨keep a hy u, by rw [← Act.put_comm a v u h2]; exact he⟩⟩
      case round l f tmps assign body =>
        refine ⟨h.1, RoundIn.mono h.2 fun e w'' he => ?_⟩
        cases e with
        | returned u => exact ⟨keep a hy u, by rw [← Act.put_comm a v u h2]; exact he⟩
        | panicked c => exact hQ _ _ _ he
        | outgrown => exact he
    | halt x w' =>
      cases x <;> simp only [Oper.uponIn] at h ⊢
      case panic u => exact hQ _ _ _ h
  · rename_i hw
    simp only [hw] at h
    exact ⟨h.1, keep a hy _, by rw [← Act.put_comm a v undef h2]; exact h.2⟩

/-- Number k cannot come up before number i: it waits for it, or for one that does. -/
inductive Behind (md : Region.Mode) (ops : Array Oper) (listed : Array Bool) (i : Nat) : Nat → Prop
  | one {k : Nat} (h : waits md ops k i = true) (hl : listed.getD k true = false) : Behind md ops listed i k
  | step {j k : Nat} (hj : Behind md ops listed i j) (h : waits md ops k j = true) (hl : listed.getD k true = false) : Behind md ops listed i k

theorem Behind.open' {listed : Array Bool} {i : Nat} (h : Behind md ops listed i k) : listed.getD k true = false := by cases h <;> assumption
theorem Behind.not_ready {listed : Array Bool} {i : Nat} (h : Behind md ops listed i k) (hi : listed.getD i false = false) : k ∉ Region.ready md ops listed := by
  cases h with
  | one hw _ => exact not_ready_of_waits hw hi
  | step hj hw _ => exact not_ready_of_waits hw (getD_false hj.open')
theorem Behind.next {listed : Array Bool} {i j : Nat} (hi : listed.getD i false = false) (hj : j ∈ Region.ready md ops listed) (h : Behind md ops listed i k) : Behind md ops (listed.setIfInBounds j true) i k := by
  induction h with
  | one hw hl =>
    refine .one hw ?_
    rw [getD_set_ne true (by rintro rfl; exact Behind.not_ready (.one hw hl) hi hj)]; exact hl
  | step hq hw hl ih =>
    refine .step ih hw ?_
    rw [getD_set_ne true (by rintro rfl; exact Behind.not_ready (.step hq hw hl) hi hj)]; exact hl
def behindB (md : Region.Mode) (ops : Array Oper) (listed : Array Bool) (i : Nat) : Nat → Nat → Bool
  | 0, k => waits md ops k i && !listed.getD k true
  | f + 1, k => !listed.getD k true && (waits md ops k i || (List.range ops.size).any fun j => waits md ops k j && behindB md ops listed i f j)
theorem behindB_spec {listed : Array Bool} {i : Nat} : ∀ (f k : Nat), behindB md ops listed i f k = true → Behind md ops listed i k
  | 0, k, h => by
    simp only [behindB, Bool.and_eq_true, Bool.not_eq_true'] at h
    exact .one h.1 h.2
  | f + 1, k, h => by
    simp only [behindB, Bool.and_eq_true, Bool.not_eq_true', Bool.or_eq_true, List.any_eq_true] at h
    obtain ⟨hl, hw | ⟨j, _, hj, hb⟩⟩ := h
    · exact .one hw hl
    · exact .step (behindB_spec f j hb) hj hl

/-- 'wpAnyL' inside a fence. -/
def wpAnyLIn (F : Fence) (n : Nat) (P : Program) (md : Region.Mode) (ops : Array Oper) (Q : Exit → Act → World → Prop) (S : World → Prop) (k : Nat) : Nat → Array Bool → Act → World → Prop
  | 0, listed, a, w => Region.ready md ops listed = [] ∧ Q .normal a w
  | fuel + 1, listed, a, w =>
    (Region.ready md ops listed = [] → Q .normal a w) ∧
    ∀ i ∈ Region.ready md ops listed, wpOpIn F n P ops Q i (fun a' w' => ((listed.setIfInBounds i true).getD k true = false → S w') ∧ wpAnyLIn F n P md ops Q S k fuel (listed.setIfInBounds i true) a' w') a w

theorem wpAnyIn_of_L : ∀ (fuel : Nat) (listed : Array Bool) (a : Act) (w : World), wpAnyLIn F n P md ops Q S k fuel listed a w → wpAnyIn F n P md ops Q fuel listed a w
  | 0, _, _, _, h => h
  | fuel + 1, _, _, _, h => ⟨h.1, fun i hi => wpOpIn_mono (fun a' w' h' => wpAnyIn_of_L fuel _ a' w' h'.2) (h.2 i hi)⟩

theorem wpAnyLIn_first {i : Nat} {oi : Oper} {v : Value} (hnd : noDefer ops = true) (hi : ops[i]? = some oi) (hsel : ∀ (j : Nat) (o : Oper) cs b, ops[j]? = some o → o.op ≠ .select cs b)
    (hQ : ∀ c a w, Q (.panic c) (a.put oi.dst v) w → Q (.panic c) a w) (hik : i ≠ k) :
    ∀ (fuel : Nat) (listed : Array Bool) (a : Act) (w : World),
      (∀ j oj, ops[j]? = some oj → j ≠ i → listed.getD j true = false → (∀ e ∈ oj.after, Region.binds md e = true → e.on ≠ i) → oi.apart ops oj = true) →
      i ∈ Region.ready md ops listed → Behind md ops listed i k → YieldsG P ops S oi v a → S w →
      wpAnyLIn F n P md ops Q S k fuel (listed.setIfInBounds i true) (a.put oi.dst v) w → wpAnyLIn F n P md ops Q S k (fuel + 1) listed a w := by
  have hndi := noDefer_spec hnd i oi hi
  intro fuel
  induction fuel with
  | zero =>
    intro listed a w _ hr _ hy hS H
    refine ⟨fun h => (by rw [h] at hr; cases hr), fun j hj => ?_⟩
    by_cases hji : j = i
    · subst hji; exact hy.wpOpIn hndi hi hS ⟨fun _ => hS, H⟩
    · have := ready_mono hj hji
      rw [H.1] at this
      cases this
  | succ fuel ih =>
    intro listed a w hfree hr hk hy hS H
    refine ⟨fun h => (by rw [h] at hr; cases hr), fun j hj => ?_⟩
    by_cases hji : j = i
    · subst hji; exact hy.wpOpIn hndi hi hS ⟨fun _ => hS, H⟩
    · have h1 := H.2 j (ready_mono hj hji)
      have hjk : j ≠ k := by
        rintro rfl
        exact hk.not_ready (getD_false (mem_ready.1 hr).1) hj
      obtain ⟨hjun, oj, hoj, hall⟩ := mem_ready.1 hj
      have hnot : ∀ e ∈ oj.after, Region.binds md e = true → e.on ≠ i := fun e he hb heq => by
        have h1 := hall e he hb
        have h0 := (mem_ready.1 hr).1
        rw [heq] at h1
        rcases Nat.lt_or_ge i listed.size with h' | h'
        · simp [h'] at h0 h1; rw [h0] at h1; cases h1
        · simp [Array.getElem?_eq_none h'] at h1
      have h2 := wpOpIn_putG (noDefer_spec hnd j oj hoj) hoj (hfree j oj hoj hji hjun hnot) (fun cs b => hsel i oi cs b hi) (fun cs b => hsel j oj cs b hoj) hQ hy h1
      have hfree' : ∀ k ok, ops[k]? = some ok → k ≠ i → (listed.setIfInBounds j true).getD k true = false →
          (∀ e ∈ ok.after, Region.binds md e = true → e.on ≠ i) → oi.apart ops ok = true := fun k ok hk hki hun hno => by
        refine hfree k ok hk hki ?_ hno
        by_cases hjk : j = k
        · subst hjk; exact hjun
        · rw [getD_set_ne true hjk] at hun; exact hun
      have hkl2 : ((listed.setIfInBounds i true).setIfInBounds j true).getD k true = false := by rw [getD_set_ne true hjk, getD_set_ne true hik]; exact hk.open'
      refine wpOpIn_mono (fun a' w' h3 => ⟨fun _ => h3.2.1 hkl2, ih (listed.setIfInBounds j true) a' w' hfree' (ready_mono hr (Ne.symm hji)) (hk.next (getD_false (mem_ready.1 hr).1) hj) h3.1 (h3.2.1 hkl2) ?_⟩) h2
      rw [Array.setIfInBounds_comm _ _ hji]
      exact h3.2.2

/-- Take number i first. -/
theorem wpAnyLIn_take {i : Nat} {oi : Oper} {v : Value} {fuel : Nat} {listed : Array Bool} {a : Act} {w : World} (hi : ops[i]? = some oi)
    (hs : (Region.noSelect ops && noDefer ops) = true) (hf : (Region.free md ops listed i && ((Region.ready md ops listed).contains i && (behindB md ops listed i 4 k && !(i == k)))) = true)
    (hQ : ∀ c a w, Q (.panic c) (a.put oi.dst v) w → Q (.panic c) a w) (hy : YieldsG P ops S oi v a) (hS : S w)
    (h : wpAnyLIn F n P md ops Q S k fuel (listed.setIfInBounds i true) (a.put oi.dst v) w) : wpAnyLIn F n P md ops Q S k (fuel + 1) listed a w := by
  simp only [Bool.and_eq_true, Bool.not_eq_true', beq_eq_false_iff_ne] at hf hs
  exact wpAnyLIn_first hs.2 hi (Region.noSelect_spec hs.1) hQ hf.2.2.2 fuel listed a w (Region.free_spec hi hf.1) (by simpa using hf.2.1) (behindB_spec _ _ hf.2.2.1) hy hS h

/-- Number k alone can come up, the last. -/
theorem wpAnyLIn_last {o : Oper} {fuel : Nat} {listed : Array Bool} {a : Act} {w : World} (ho : ops[k]? = some o) (hr : (Region.ready md ops listed == [k] && (Region.ready md ops (listed.setIfInBounds k true) == [] && (listed.setIfInBounds k true).getD k true)) = true)
    (h : ∀ K' : Act → World → Prop, Shut (∀ a w, Q .normal a w → K' a w) → if Region.wanted o (yielded ops a.tmps) = true then Oper.wpIn F n P o a w K' Q else (∀ f, o.about P w a.eval = some f → F.fn f) ∧ K' (a.put o.dst undef) w) :
    wpAnyLIn F n P md ops Q S k (fuel + 1) listed a w := by
  simp only [Bool.and_eq_true, beq_iff_eq] at hr
  refine ⟨fun h0 => (by rw [h0] at hr; cases hr.1), fun j hj => ?_⟩
  rw [hr.1] at hj
  obtain rfl : j = k := by simpa using hj
  refine wpOpIn_step ho (fun K' hK => h K' (fun a w hq => hK a w ⟨fun e => ?_, ?_⟩))
  · rw [hr.2.2] at e; cases e
  · cases fuel with
    | zero => exact ⟨hr.2.1, hq⟩
    | succ n => exact ⟨fun _ => hq, by rw [hr.2.1]; simp⟩

theorem wpIn_region_last {id : Nat} {a : Act} {w : World} (k : Nat) (S : World → Prop) (hm : P.follows .mixedOrders = true) (hS : S w.drew)
    (h : S w.drew → wpAnyLIn F n P .any ops Q S k ops.size (Array.replicate ops.size false) a w.drew) : (Code.region id ops true).wpIn F n P Q a w :=
  wpIn_region_any hm (wpAnyIn_of_L _ _ _ _ (h hS))

theorem wpIn_region_noPanic {id : Nat} {b : Bool} {a : Act} {w : World} (h : (Code.region id ops b).wpIn F n P (NoPanic Q) a w) : (Code.region id ops b).wpIn F n P Q a w :=
  wpIn_mono h NoPanic.imp
end
end Go.Proofs.Qxb6608902a
