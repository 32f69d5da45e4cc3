import Derived.Test.Qxb6608902aCpy
namespace Go.Proofs.Qxb6608902a
open Go.RowKit

theorem step_append_fits {P : Program} {w : World} {ops : Array Oper} {o : Oper} {a : Act} {K : Act → World → Prop} {Q : Exit → Act → World → Prop} {E : Prop} (hgd : o.guard = none) (s x : Operand) (t : TypeId)
    (hop : o.op = .call { callee := .builtin .append, args := #[s, x], argTypes := #[t, t] })
    (base : Nat) (e : TypeId) (i : TypeInfo) (size : Nat) (h1 : P.underlying t = some (.slice e)) (h2 : P.info? e = some i) (h4 : i.size = size)
    (g k cap : Nat) (xs : List Value) (hs : a.eval s = .slice (some ⟨g, 0, none⟩) k cap) (hown : w.ownsRow base e size (.slice (some ⟨g, 0, none⟩) k cap) k xs) (ad : Addr) (m c : Nat) (news : List Value) (hx : a.eval x = .slice (some ad) m c) (hn : news.length = m * size)
    (hc : ∀ j u, news[j]? = some u → w.cell? (ad.add j) = some u) (h1c : ∀ u ∈ news, u.oneCell' = true) (b1 : k + m ≤ cap)
    (h : ∀ w', w'.ownsRow base e size (.slice (some ⟨g, 0, none⟩) (k + m) cap) (k + m) (xs ++ news) → w.grownBy w' (some g) → K (a.put o.dst (.slice (some ⟨g, 0, none⟩) (k + m) cap)) w') :
    if Region.wanted o (yielded ops a.tmps) = true then Oper.wp P o a w K Q else E := by
  have hw : Region.wanted o (yielded ops a.tmps) = true := by simp [Region.wanted, hgd]
  rw [if_pos hw]
  obtain ⟨w', hrun, r1, r2⟩ := run_append_fits (P := P) w base t o.type e i size h1 h2 h4 g k cap xs hown ad m c news hn hc h1c b1
  unfold Oper.wp
  simp [execOp, hop, resolve, invoke, builtin, hs, hx, hrun, Result.andThen]
  exact h w' r1 r2

theorem cell_lt {w : World} {p : Addr} {v : Value} (h : w.cell? p = some v) : p.block < w.heap.size := by
  unfold World.cell? at h
  rcases Nat.lt_or_ge p.block w.heap.size with h' | h'
  · exact h'
  · rw [Array.getElem?_eq_none h'] at h; cases h
theorem cell_grown {w w' : World} {B b o : Nat} {v : Value} (hg : w.grownBy w' (some B)) (h : w.cell? ⟨b, o, none⟩ = some v) (hb : b ≠ B) : w'.cell? ⟨b, o, none⟩ = some v := (Turn.ofGrown hg).cell h (fun e => hb (by cases e; rfl))
/-- An armed trigger, as the law's argument holds it. -/
structure Tg where
  typ : ByteArray
  on : Int
  off : Int
def Tg.cells (t : Tg) : List Value := [.string t.typ, .int .u8 t.on, .int .u8 t.off]
def tgCells (l : List Tg) : List Value := l.flatMap fun t => (trgCells t.typ t.on t.off).toList
theorem tgCells_snoc (l : List Tg) (k : Nat) (t : Tg) (h : l[k]? = some t) : tgCells (l.take (k + 1)) = tgCells (l.take k) ++ (trgCells t.typ t.on t.off).toList := by
  have hlt : k < l.length := (List.getElem?_eq_some_iff.1 h).1
  have he : l[k] = t := (List.getElem?_eq_some_iff.1 h).2
  rw [List.take_succ_eq_append_getElem hlt, he]
  simp [tgCells]

def zero137 : Value := .agg (trgCells ⟨#[]⟩ 0 0)
theorem Try.info137 : (Try.prog.info? 137).map (fun i => (i.zero, i.size, i.bytes)) = some (some zero137, 8, 48) := by kernel_rfl
theorem own_full {w : World} {base e size n g : Nat} {xs : List Value} (h : w.ownsRow base e size (.slice (some ⟨g, 0, none⟩) n n) n xs) : w.heap[g]? = some (.cells xs.toArray e) := by
  rcases h.2 with ⟨hv, _⟩ | ⟨g', cap, cur, hv, _, hg, _, _, hs, ht⟩
  · cases hv
  · cases hv
    rw [hg]
    congr 2
    have : cur.toList = xs := by rw [← ht, List.take_of_length_le (by simp [hs])]
    rw [← this]

set_option linter.unusedSimpArgs false in
set_option maxRecDepth 100000 in
set_option maxHeartbeats 1000000 in
theorem trigs35 (a : Option Addr) (c : Nat) (ts : List Tg) (w : World) (hn : ts.length ≤ 1048576) (hr : Rd w a 3 (ts.map Tg.cells)) :
    Calls Try.prog 35 #[.slice a ts.length c] w fun e w' => e = .returned (.slice (some ⟨w.heap.size, 0, none⟩) ts.length ts.length) ∧ w'.heap[w.heap.size]? = some (.cells (tgCells ts).toArray 137) ∧ Below w.heap.size w w' := by
  obtain ⟨i0, hi, hz0, hz1, hz2⟩ := info_parts Try.info137
  have hmx : Try.prog.follows .mixedOrders = true := by kernel_rfl
  obtain ⟨wm, hmk, hom, hgm⟩ := run_make_own (P := Try.prog) w w.heap.size 87 137 i0 zero137 8 Try.underlying87 hi hz0 hz1 .i64 .i64 ts.length (by rw [hz2]; omega) (by unfold maxLen; omega) (Nat.le_refl _)
  go_enter Try.func35, Try.ntmps35
  go_wp2
  go_loopw [3, 4] (fun o i wr => ∃ k : Nat, k ≤ ts.length ∧ i = .int .i64 k ∧ o = .slice (some ⟨w.heap.size, 0, none⟩) k ts.length ∧ wr.ownsRow w.heap.size 137 8 (.slice (some ⟨w.heap.size, 0, none⟩) k ts.length) k (tgCells (ts.take k)) ∧ Below w.heap.size w wr) (fun _ i _ => ts.length - (intOf i).toNat)
  case atStart => exact ⟨0, Nat.zero_le _, rfl, rfl, hom, (Below.refl _ _).grown hgm (Nat.le_refl _) (fun k e => by cases e)⟩
  case round =>
    obtain ⟨k, hk, rfl, rfl, ho, hb⟩ := hrel
    by_cases hlt : k < ts.length
    · obtain ⟨t, hy⟩ : ∃ t, ts[k]? = some t := ⟨_, List.getElem?_eq_getElem hlt⟩
      obtain ⟨b, o, rfl, h1⟩ := hr k t.cells (by simp [hy])
      have hbne : b ≠ w.heap.size := by
        have := cell_lt (h1 0 _ rfl)
        dsimp only at this; omega
      have b1 : (0 : Int) ≤ (k : Int) := by omega
      have b2 : (k : Int) < (ts.length : Int) := by omega
      have hsn := tgCells_snoc ts k t hy
      have HSN : Hid _ := hsn
      have HO : Hid _ := ho
      have HB : Hid _ := hb
      have z0 : wr.cell? ⟨b, o + k * 3, none⟩ = some (.string t.typ) := cell_later hb (h1 0 _ rfl)
      have z1 : wr.cell? ⟨b, o + k * 3 + 1, none⟩ = some (.int .u8 t.on) := cell_later hb (h1 1 _ rfl)
      have z2 : wr.cell? ⟨b, o + k * 3 + 2, none⟩ = some (.int .u8 t.off) := cell_later hb (h1 2 _ rfl)
      clear hr h1 hsn ho hb hom hgm hmk hy
      go_wp2_with fail
      refine wp_region_noPanic ?_
      refine wp_region_last 19 (fun A => A.cell? ⟨b, o + k * 3, none⟩ = some (.string t.typ) ∧ A.cell? ⟨b, o + k * 3 + 1, none⟩ = some (.int .u8 t.on) ∧ A.cell? ⟨b, o + k * 3 + 2, none⟩ = some (.int .u8 t.off)) hmx ⟨z0, z1, z2⟩ (fun hHeld => ?_)
      refine wpAnyL_take (i := 0) (oi := _) (v := ?_) rfl (by kernel_rfl) (by kernel_rfl) (fun _ _ _ h => h) (Or.inl ⟨by rfl, ?_⟩) hHeld ?_
      rotate_left
      · (intro w' hSw; obtain ⟨g1, g2, g3⟩ := hSw; go_simp; first | done | with_reducible rfl)
      try simp only [List.getElem_toArray, List.getElem_cons_succ, List.getElem_cons_zero, Act.put, List.setIfInBounds_toArray, List.set_cons_zero, List.set_cons_succ]
      refine wpAnyL_take (i := 1) (oi := _) (v := ?_) rfl (by kernel_rfl) (by kernel_rfl) (fun _ _ _ h => h) (Or.inl ⟨by rfl, ?_⟩) hHeld ?_
      rotate_left
      · (intro w' hSw; obtain ⟨g1, g2, g3⟩ := hSw; go_simp; first | done | with_reducible rfl)
      try simp only [List.getElem_toArray, List.getElem_cons_succ, List.getElem_cons_zero, Act.put, List.setIfInBounds_toArray, List.set_cons_zero, List.set_cons_succ]
      refine wpAnyL_take (i := 2) (oi := _) (v := ?_) rfl (by kernel_rfl) (by kernel_rfl) (fun _ _ _ h => h) (Or.inl ⟨by rfl, ?_⟩) hHeld ?_
      rotate_left
      · (intro w' hSw; obtain ⟨g1, g2, g3⟩ := hSw; go_simp; first | done | with_reducible rfl)
      try simp only [List.getElem_toArray, List.getElem_cons_succ, List.getElem_cons_zero, Act.put, List.setIfInBounds_toArray, List.set_cons_zero, List.set_cons_succ]
      refine wpAnyL_take (i := 3) (oi := _) (v := ?_) rfl (by kernel_rfl) (by kernel_rfl) (fun _ _ _ h => h) (Or.inl ⟨by rfl, ?_⟩) hHeld ?_
      rotate_left
      · (intro w' hSw; obtain ⟨g1, g2, g3⟩ := hSw; go_simp; first | done | with_reducible rfl)
      try simp only [List.getElem_toArray, List.getElem_cons_succ, List.getElem_cons_zero, Act.put, List.setIfInBounds_toArray, List.set_cons_zero, List.set_cons_succ]
      refine wpAnyL_take (i := 4) (oi := _) (v := ?_) rfl (by kernel_rfl) (by kernel_rfl) (fun _ _ _ h => h) (Or.inl ⟨by rfl, ?_⟩) hHeld ?_
      rotate_left
      · (intro w' hSw; obtain ⟨g1, g2, g3⟩ := hSw; go_simp; first | done | with_reducible rfl)
      try simp only [List.getElem_toArray, List.getElem_cons_succ, List.getElem_cons_zero, Act.put, List.setIfInBounds_toArray, List.set_cons_zero, List.set_cons_succ]
      refine wpAnyL_take (i := 5) (oi := _) (v := ?_) rfl (by kernel_rfl) (by kernel_rfl) (fun _ _ _ h => h) (Or.inl ⟨by rfl, ?_⟩) hHeld ?_
      rotate_left
      · (intro w' hSw; obtain ⟨g1, g2, g3⟩ := hSw; go_simp; first | done | with_reducible rfl)
      try simp only [List.getElem_toArray, List.getElem_cons_succ, List.getElem_cons_zero, Act.put, List.setIfInBounds_toArray, List.set_cons_zero, List.set_cons_succ]
      refine wpAnyL_take (i := 6) (oi := _) (v := ?_) rfl (by kernel_rfl) (by kernel_rfl) (fun _ _ _ h => h) (Or.inl ⟨by rfl, ?_⟩) hHeld ?_
      rotate_left
      · (intro w' hSw; obtain ⟨g1, g2, g3⟩ := hSw; go_simp; first | done | with_reducible rfl)
      try simp only [List.getElem_toArray, List.getElem_cons_succ, List.getElem_cons_zero, Act.put, List.setIfInBounds_toArray, List.set_cons_zero, List.set_cons_succ]
      refine wpAnyL_take (i := 7) (oi := _) (v := ?_) rfl (by kernel_rfl) (by kernel_rfl) (fun _ _ _ h => h) (Or.inl ⟨by rfl, ?_⟩) hHeld ?_
      rotate_left
      · (intro w' hSw; obtain ⟨g1, g2, g3⟩ := hSw; go_simp; first | done | with_reducible rfl)
      try simp only [List.getElem_toArray, List.getElem_cons_succ, List.getElem_cons_zero, Act.put, List.setIfInBounds_toArray, List.set_cons_zero, List.set_cons_succ]
      refine wpAnyL_take (i := 8) (oi := _) (v := ?_) rfl (by kernel_rfl) (by kernel_rfl) (fun _ _ _ h => h) (Or.inl ⟨by rfl, ?_⟩) hHeld ?_
      rotate_left
      · (intro w' hSw; obtain ⟨g1, g2, g3⟩ := hSw; go_simp; first | done | with_reducible rfl)
      try simp only [List.getElem_toArray, List.getElem_cons_succ, List.getElem_cons_zero, Act.put, List.setIfInBounds_toArray, List.set_cons_zero, List.set_cons_succ]
      refine wpAnyL_take (i := 9) (oi := _) (v := ?_) rfl (by kernel_rfl) (by kernel_rfl) (fun _ _ _ h => h) (Or.inl ⟨by rfl, ?_⟩) hHeld ?_
      rotate_left
      · (intro w' hSw; obtain ⟨g1, g2, g3⟩ := hSw; go_simp; first | done | with_reducible rfl)
      try simp only [List.getElem_toArray, List.getElem_cons_succ, List.getElem_cons_zero, Act.put, List.setIfInBounds_toArray, List.set_cons_zero, List.set_cons_succ]
      refine wpAnyL_take (i := 10) (oi := _) (v := ?_) rfl (by kernel_rfl) (by kernel_rfl) (fun _ _ _ h => h) (Or.inl ⟨by rfl, ?_⟩) hHeld ?_
      rotate_left
      · (intro w' hSw; obtain ⟨g1, g2, g3⟩ := hSw; go_simp; first | done | with_reducible rfl)
      try simp only [List.getElem_toArray, List.getElem_cons_succ, List.getElem_cons_zero, Act.put, List.setIfInBounds_toArray, List.set_cons_zero, List.set_cons_succ]
      refine wpAnyL_take (i := 11) (oi := _) (v := ?_) rfl (by kernel_rfl) (by kernel_rfl) (fun _ _ _ h => h) (Or.inl ⟨by rfl, ?_⟩) hHeld ?_
      rotate_left
      · (intro w' hSw; obtain ⟨g1, g2, g3⟩ := hSw; go_simp; first | done | with_reducible rfl)
      try simp only [List.getElem_toArray, List.getElem_cons_succ, List.getElem_cons_zero, Act.put, List.setIfInBounds_toArray, List.set_cons_zero, List.set_cons_succ]
      refine wpAnyL_take (i := 12) (oi := _) (v := ?_) rfl (by kernel_rfl) (by kernel_rfl) (fun _ _ _ h => h) (Or.inl ⟨by rfl, ?_⟩) hHeld ?_
      rotate_left
      · (intro w' hSw; obtain ⟨g1, g2, g3⟩ := hSw; go_simp; first | done | with_reducible rfl)
      try simp only [List.getElem_toArray, List.getElem_cons_succ, List.getElem_cons_zero, Act.put, List.setIfInBounds_toArray, List.set_cons_zero, List.set_cons_succ]
      refine wpAnyL_take (i := 13) (oi := _) (v := ?_) rfl (by kernel_rfl) (by kernel_rfl) (fun _ _ _ h => h) (Or.inl ⟨by rfl, ?_⟩) hHeld ?_
      rotate_left
      · (intro w' hSw; obtain ⟨g1, g2, g3⟩ := hSw; go_simp; first | done | with_reducible rfl)
      try simp only [List.getElem_toArray, List.getElem_cons_succ, List.getElem_cons_zero, Act.put, List.setIfInBounds_toArray, List.set_cons_zero, List.set_cons_succ]
      refine wpAnyL_take (i := 14) (oi := _) (v := ?_) rfl (by kernel_rfl) (by kernel_rfl) (fun _ _ _ h => h) (Or.inl ⟨by rfl, ?_⟩) hHeld ?_
      rotate_left
      · (intro w' hSw; obtain ⟨g1, g2, g3⟩ := hSw; go_simp; first | done | with_reducible rfl)
      try simp only [List.getElem_toArray, List.getElem_cons_succ, List.getElem_cons_zero, Act.put, List.setIfInBounds_toArray, List.set_cons_zero, List.set_cons_succ]
      refine wpAnyL_take (i := 15) (oi := _) (v := ?_) rfl (by kernel_rfl) (by kernel_rfl) (fun _ _ _ h => h) (Or.inl ⟨by rfl, ?_⟩) hHeld ?_
      rotate_left
      · (intro w' hSw; obtain ⟨g1, g2, g3⟩ := hSw; go_simp; first | done | with_reducible rfl)
      try simp only [List.getElem_toArray, List.getElem_cons_succ, List.getElem_cons_zero, Act.put, List.setIfInBounds_toArray, List.set_cons_zero, List.set_cons_succ]
      clear z0 z1 z2
      refine wpAnyL_one (i := 16) (o := _) rfl (by kernel_rfl) (fun K hK => ?_)
      go_simp
      refine (new51 t.typ t.on t.off wr.drew).mono ?_
      rintro e w1 ⟨rfl, rfl⟩
      have b1' : Below wr.heap.size wr (wr.drew.alloc (.cells (trgCells t.typ t.on t.off) 137)) := ((Below.refl _ wr).drew).alloc (by simp) _
      refine hK.out _ _ ⟨cell_later b1' hHeld.1, cell_later b1' hHeld.2.1, cell_later b1' hHeld.2.2⟩ (fun hHeld2 => ?_)
      clear hK K hHeld
      generalize wr.drew.alloc (.cells (trgCells t.typ t.on t.off) 137) = w1 at *
      try simp only [List.getElem_toArray, List.getElem_cons_succ, List.getElem_cons_zero, Act.put, List.setIfInBounds_toArray, List.set_cons_zero, List.set_cons_succ]
      refine wpAnyL_one (i := 17) (o := _) rfl (by kernel_rfl) (fun K hK => ?_)
      dsimp only [trgCells]
      go_simp
      have b2' : Below wr.heap.size wr (w1.alloc (.cells (trgCells t.typ t.on t.off) 137)) := b1'.alloc b1'.size _
      have b3' : Below w1.heap.size w1 (w1.alloc (.cells (trgCells t.typ t.on t.off) 137)) := (Below.refl _ w1).alloc (Nat.le_refl _) _
      refine hK.out _ (w1.alloc (.cells (trgCells t.typ t.on t.off) 137)) ⟨cell_later b3' hHeld2.1, cell_later b3' hHeld2.2.1, cell_later b3' hHeld2.2.2⟩ (fun hHeld3 => ?_)
      clear hK K hHeld2
      try simp only [List.getElem_toArray, List.getElem_cons_succ, List.getElem_cons_zero, Act.put, List.setIfInBounds_toArray, List.set_cons_zero, List.set_cons_succ]
      have o2 := own_later97 (Hid.out HO) b2'
      have hnew := World.news_of_block (heap_alloc_new w1 (.cells (trgCells t.typ t.on t.off) 137))
      generalize hB2 : w1.heap.size = B2 at *
      generalize w1.alloc (.cells (trgCells t.typ t.on t.off) 137) = w2 at *
      refine wpAnyL_one (i := 18) (o := _) rfl (by kernel_rfl) (fun K hK => ?_)
      refine step_append_fits (by rfl) _ _ 87 (by rfl) w.heap.size 137 i0 8 Try.underlying87 hi hz1 w.heap.size k ts.length (tgCells (ts.take k)) (by rfl) o2 ⟨B2, 0, none⟩ 1 1 (trgCells t.typ t.on t.off).toList (by rfl) rfl hnew (by simp [trgCells, Value.oneCell']) hlt ?_
      intro w3 o3 g3
      have b3'' : Below w.heap.size w w3 := ((Hid.out HB).trans (b2'.mono (Hid.out HB).size)).grown g3 (by have := (Hid.out HB).size; have := b2'.size; omega) (fun k e => by cases e; exact Nat.le_refl _)
      refine hK.out _ _ (hHeld3.elim fun a1 a2 => a2.elim fun a2 a3 => ⟨cell_grown g3 a1 hbne, cell_grown g3 a2 hbne, cell_grown g3 a3 hbne⟩) (fun hHeld4 => ?_)
      clear hK K hHeld3
      try simp only [List.getElem_toArray, List.getElem_cons_succ, List.getElem_cons_zero, Act.put, List.setIfInBounds_toArray, List.set_cons_zero, List.set_cons_succ]
      refine wpAnyL_last rfl (by kernel_rfl) ?_
      intro K' hK'
      go_simp
      refine hK'.out _ _ (NoPanic.normal ?_)
      clear hK' K' hHeld4
      rw [← Hid.out HSN] at o3
      have HO3 : Hid _ := o3
      have HB3 : Hid _ := b3''
      clear o3 g3 b3'' o2 hnew b1' b2' b3'
      go_wp2
      go_roundw
      case rel => exact ⟨k + 1, hlt, by go_num, rfl, Hid.out HO3, Hid.out HB3⟩
      case measure => simp [intOf]; omega
    · obtain rfl : k = ts.length := by omega
      go_wp2
      go_ret
      rw [List.take_length] at ho
      exact ⟨rfl, own_full ho, hb⟩
end Go.Proofs.Qxb6608902a
