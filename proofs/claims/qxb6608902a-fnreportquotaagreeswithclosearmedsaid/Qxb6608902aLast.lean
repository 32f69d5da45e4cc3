import Derived.Deep.RegionHeld3
namespace Go.Proofs.Qxb6608902a
open Go

section
variable {P : Program} {ops : Array Oper} {Q : Exit → Act → World → Prop} {md : Region.Mode} {S : World → Prop} {k : Nat}

/-- Whatever order is picked from here on, AND S HOLDS BEHIND EVERY OPERATION THAT IS CARRIED OUT, AS LONG AS NUMBER k HAS NOT COME UP. -/
def wpAnyL (P : Program) (md : Region.Mode) (ops : Array Oper) (Q : Exit → Act → World → Prop) (S : World → Prop) (k : Nat) : Nat → Array Bool → Act → World → Prop
  | 0, listed, a, w => Region.ready md ops listed = [] ∧ Q .normal a w
  | fuel + 1, listed, a, w =>
    (Region.ready md ops listed = [] → Q .normal a w) ∧
    ∀ i ∈ Region.ready md ops listed, wpOp P ops Q i (fun a' w' => ((listed.setIfInBounds i true).getD k true = false → S w') ∧ wpAnyL P md ops Q S k fuel (listed.setIfInBounds i true) a' w') a w

theorem wpAny_of_L : ∀ (fuel : Nat) (listed : Array Bool) (a : Act) (w : World), wpAnyL P md ops Q S k fuel listed a w → wpAny P md ops Q fuel listed a w
  | 0, _, _, _, h => h
  | fuel + 1, _, _, _, h => ⟨h.1, fun i hi => wpOp_mono (fun a' w' h' => wpAny_of_L fuel _ a' w' h'.2) (h.2 i hi)⟩

/-- Does number k wait for number i? -/
def waits (md : Region.Mode) (ops : Array Oper) (k i : Nat) : Bool :=
  match ops[k]? with
  | some ok => ok.after.any (fun e => Region.binds md e && e.on == i)
  | none => true

theorem not_ready_of_waits {i : Nat} {listed : Array Bool} (hw : waits md ops k i = true) (hi : listed.getD i false = false) : k ∉ Region.ready md ops listed := by
  intro hk
  obtain ⟨_, ok, hok, hall⟩ := mem_ready.1 hk
  unfold waits at hw
  rw [hok] at hw
  obtain ⟨e, he, hb⟩ := Array.any_eq_true'.1 hw
  simp only [Bool.and_eq_true, beq_iff_eq] at hb
  have := hall e he hb.1
  rw [hb.2, hi] at this
  cases this

theorem getD_false {listed : Array Bool} {i : Nat} (h : listed.getD i true = false) : listed.getD i false = false := by
  rcases Nat.lt_or_ge i listed.size with h' | h'
  · simp [h'] at h ⊢; exact h
  · simp [Array.getElem?_eq_none h'] at h

theorem wpAnyL_first {i : Nat} {oi : Oper} {v : Value} (hi : ops[i]? = some oi) (hsel : ∀ (j : Nat) (o : Oper) cs b, ops[j]? = some o → o.op ≠ .select cs b)
    (hQ : ∀ c a w, Q (.panic c) (a.put oi.dst v) w → Q (.panic c) a w) (hik : i ≠ k) (hwk : waits md ops k i = true) :
    ∀ (fuel : Nat) (listed : Array Bool) (a : Act) (w : World),
      (∀ j oj, ops[j]? = some oj → j ≠ i → listed.getD j true = false → (∀ e ∈ oj.after, Region.binds md e = true → e.on ≠ i) → oi.apart ops oj = true) →
      i ∈ Region.ready md ops listed → listed.getD k true = false → YieldsIf P ops S oi v a → S w →
      wpAnyL P md ops Q S k fuel (listed.setIfInBounds i true) (a.put oi.dst v) w → wpAnyL P md ops Q S k (fuel + 1) listed a w := by
  intro fuel
  induction fuel with
  | zero =>
    intro listed a w _ hr _ hy hS H
    refine ⟨fun h => (by rw [h] at hr; cases hr), fun j hj => ?_⟩
    by_cases hji : j = i
    · subst hji; exact hy.wpOp hi hS ⟨fun _ => hS, H⟩
    · have := ready_mono hj hji
      rw [H.1] at this
      cases this
  | succ fuel ih =>
    intro listed a w hfree hr hk hy hS H
    refine ⟨fun h => (by rw [h] at hr; cases hr), fun j hj => ?_⟩
    by_cases hji : j = i
    · subst hji; exact hy.wpOp hi hS ⟨fun _ => hS, H⟩
    · have h1 := H.2 j (ready_mono hj hji)
      have hjk : j ≠ k := by
        rintro rfl
        exact not_ready_of_waits hwk (getD_false (mem_ready.1 hr).1) hj
      obtain ⟨hjun, oj, hoj, hall⟩ := mem_ready.1 hj
      have hnot : ∀ e ∈ oj.after, Region.binds md e = true → e.on ≠ i := fun e he hb heq => by
        have h1 := hall e he hb
        have h0 := (mem_ready.1 hr).1
        rw [heq] at h1
        rcases Nat.lt_or_ge i listed.size with h' | h'
        · simp [h'] at h0 h1; rw [h0] at h1; cases h1
        · simp [Array.getElem?_eq_none h'] at h1
      have h2 := wpOp_putIf hoj (hfree j oj hoj hji hjun hnot) (fun cs b => hsel i oi cs b hi) (fun cs b => hsel j oj cs b hoj) hQ hy h1
      have hfree' : ∀ k ok, ops[k]? = some ok → k ≠ i → (listed.setIfInBounds j true).getD k true = false →
          (∀ e ∈ ok.after, Region.binds md e = true → e.on ≠ i) → oi.apart ops ok = true := fun k ok hk hki hun hno => by
        refine hfree k ok hk hki ?_ hno
        by_cases hjk : j = k
        · subst hjk; exact hjun
        · rw [getD_set_ne true hjk] at hun; exact hun
      have hkl : (listed.setIfInBounds j true).getD k true = false := by rw [getD_set_ne true hjk]; exact hk
      have hkl2 : ((listed.setIfInBounds i true).setIfInBounds j true).getD k true = false := by rw [getD_set_ne true hjk, getD_set_ne true hik]; exact hk
      refine wpOp_mono (fun a' w' h3 => ⟨fun _ => h3.2.1 hkl2, ih (listed.setIfInBounds j true) a' w' hfree' (ready_mono hr (Ne.symm hji)) hkl h3.1 (h3.2.1 hkl2) ?_⟩) h2
      rw [Array.setIfInBounds_comm _ _ hji]
      exact h3.2.2

/-- Take number i first. -/
theorem wpAnyL_take {i : Nat} {oi : Oper} {v : Value} {fuel : Nat} {listed : Array Bool} {a : Act} {w : World} (hi : ops[i]? = some oi)
    (hs : Region.noSelect ops = true) (hf : (Region.free md ops listed i && ((Region.ready md ops listed).contains i && (waits md ops k i && (!(i == k) && !listed.getD k true)))) = true)
    (hQ : ∀ c a w, Q (.panic c) (a.put oi.dst v) w → Q (.panic c) a w) (hy : YieldsIf P ops S oi v a) (hS : S w)
    (h : wpAnyL P md ops Q S k fuel (listed.setIfInBounds i true) (a.put oi.dst v) w) : wpAnyL P md ops Q S k (fuel + 1) listed a w := by
  simp only [Bool.and_eq_true, Bool.not_eq_true', beq_eq_false_iff_ne] at hf
  exact wpAnyL_first hi (Region.noSelect_spec hs) hQ hf.2.2.2.1 hf.2.2.1 fuel listed a w (Region.free_spec hi hf.1) (by simpa using hf.2.1) hf.2.2.2.2 hy hS h

/-- One operation alone can come up: it is carried out; S is shown anew behind it. -/
theorem wpAnyL_one {i : Nat} {o : Oper} {fuel : Nat} {listed : Array Bool} {a : Act} {w : World} (ho : ops[i]? = some o) (hr : (Region.ready md ops listed == [i]) = true)
    (h : ∀ K' : Act → World → Prop, Shut (∀ a w, S w → (S w → wpAnyL P md ops Q S k fuel (listed.setIfInBounds i true) a w) → K' a w) → if Region.wanted o (yielded ops a.tmps) = true then Oper.wp P o a w K' Q else K' (a.put o.dst undef) w) :
    wpAnyL P md ops Q S k (fuel + 1) listed a w := by
  have hr' : Region.ready md ops listed = [i] := by simpa using hr
  refine ⟨fun h0 => (by rw [h0] at hr'; cases hr'), fun j hj => ?_⟩
  rw [hr'] at hj
  obtain rfl : j = i := by simpa using hj
  exact wpOp_step ho (fun K' hK => h K' (fun a w hS hW => hK a w ⟨fun _ => hS, hW hS⟩))

/-- Number k alone can come up, the last: nothing is to be shown behind it but what follows the region. -/
theorem wpAnyL_last {o : Oper} {fuel : Nat} {listed : Array Bool} {a : Act} {w : World} (ho : ops[k]? = some o) (hr : (Region.ready md ops listed == [k] && (Region.ready md ops (listed.setIfInBounds k true) == [] && (listed.setIfInBounds k true).getD k true)) = true)
    (h : ∀ K' : Act → World → Prop, Shut (∀ a w, Q .normal a w → K' a w) → if Region.wanted o (yielded ops a.tmps) = true then Oper.wp P o a w K' Q else K' (a.put o.dst undef) w) :
    wpAnyL P md ops Q S k (fuel + 1) listed a w := by
  simp only [Bool.and_eq_true, beq_iff_eq] at hr
  refine ⟨fun h0 => (by rw [h0] at hr; cases hr.1), fun j hj => ?_⟩
  rw [hr.1] at hj
  obtain rfl : j = k := by simpa using hj
  refine wpOp_step ho (fun K' hK => h K' (fun a w hq => hK a w ⟨fun e => ?_, ?_⟩))
  · rw [hr.2.2] at e; cases e
  · cases fuel with
    | zero => exact ⟨hr.2.1, hq⟩
    | succ n => exact ⟨fun _ => hq, by rw [hr.2.1]; simp⟩

theorem wp_region_last {id : Nat} {a : Act} {w : World} (k : Nat) (S : World → Prop) (hm : P.follows .mixedOrders = true) (hS : S w.drew)
    (h : S w.drew → wpAnyL P .any ops Q S k ops.size (Array.replicate ops.size false) a w.drew) : (Code.region id ops true).wp P Q a w :=
  wp_region_any hm (wpAny_of_L _ _ _ _ (h hS))
end
end Go.Proofs.Qxb6608902a
