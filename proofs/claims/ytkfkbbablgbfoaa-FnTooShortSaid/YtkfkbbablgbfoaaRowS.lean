/-
  A slice of steps of the call's own: what append makes of it.
-/
import Derived.Test.YtkfkbbablgbfoaaPlain
namespace Go.Proofs.Ytkfkbbablgbfoaa
open Go.RowKit
set_option linter.unusedVariables false
set_option maxHeartbeats 1000000
set_option maxRecDepth 20000
theorem info28 : (Try.prog.info? 28).map (fun i => (i.zero, i.size, i.bytes)) = some (some (.agg #[.slice none 0 0, .int .i64 0, .int .i64 0]), 3, 40) := by kernel_rfl
theorem MemL.grown' {w w' : World} {a : Option Addr} {c : Nat} {xs : List Int} {row : Option Nat} (h : MemL w a c xs) (hg : w.grownBy w' row) (hne : 0 < xs.length → ∀ p, a = some p → some p.block ≠ row) : MemL w' a c xs := by
  obtain ⟨h1, h2, h3⟩ := h
  refine ⟨h1, h2, ?_⟩
  rcases h3 with h3 | ⟨b, off, rfl, hc⟩
  · exact .inl h3
  · by_cases h0 : xs.length = 0
    · exact .inl h0
    · exact .inr ⟨b, off, rfl, fun i hi => grown_cell hg (hc i hi) (hne (by omega) ⟨b, off, none⟩ rfl)⟩
/-- the cells of one step -/
def stepVals (s : PStep) (a : Option Addr) (c : Nat) : List Value := [.slice a s.lits.length c, .int .i64 (s.far : Int), .int .i64 (s.len : Int)]
/-- v is a slice of the call's own that holds the steps l -/
def RowS (w : World) (base : Nat) (G : Nat → Prop) (v : Value) (l : List PStep) : Prop :=
  ∃ xs, w.ownsRow base 28 3 v l.length xs ∧ ∀ i s, l[i]? = some s → ∃ a c, xs[i * 3]? = some (.slice a s.lits.length c) ∧ xs[i * 3 + 1]? = some (.int .i64 (s.far : Int)) ∧ xs[i * 3 + 2]? = some (.int .i64 (s.len : Int)) ∧
    MemL w a c s.lits ∧ (0 < s.lits.length → ∀ p, a = some p → some p.block ≠ v.ownBlock ∧ G p.block)
theorem memL_lt {w : World} {a : Option Addr} {c : Nat} {xs : List Int} (h : MemL w a c xs) (h0 : 0 < xs.length) (p : Addr) (hp : a = some p) : p.block < w.heap.size := by
  obtain ⟨h1, h2, h3 | ⟨b, off, rfl, hc⟩⟩ := h
  · omega
  · cases hp
    exact World.block_lt_of_cell? w _ (hc 0 h0)
theorem RowS.grown {w w' : World} {base : Nat} {G : Nat → Prop} {v : Value} {l : List PStep} (h : RowS w base G v l) {row : Option Nat} (hg : w.grownBy w' row) (hv : v.ownBlock = none ∨ v.ownBlock ≠ row)
    (hne : ∀ k, G k → k < w.heap.size → some k ≠ v.ownBlock → some k ≠ row) : RowS w' base G v l := by
  obtain ⟨xs, h1, h2⟩ := h
  refine ⟨xs, World.ownsRow.kept h1 hg hv, fun i s hs => ?_⟩
  obtain ⟨a, c, e0, e1, e2, hM, h0⟩ := h2 i s hs
  exact ⟨a, c, e0, e1, e2, hM.grown' hg (fun h3 q hq => hne q.block (h0 h3 q hq).2 (memL_lt hM h3 q hq) (h0 h3 q hq).1), h0⟩
theorem run_append_step {w : World} {base : Nat} {G : Nat → Prop} {v : Value} {l : List PStep} {s : PStep} {a : Option Addr} {c : Nat} (ty : TypeId) (h : RowS w base G v l) (p : Addr) (pc : Nat)
    (hp : ∀ j u, (stepVals s a c)[j]? = some u → w.cell? (p.add j) = some u) (hM : MemL w a c s.lits) (hne : 0 < s.lits.length → ∀ q, a = some q → some q.block ≠ v.ownBlock ∧ G q.block) (h63 : l.length ≤ 1000) (hbase : base ≤ w.heap.size) :
    ∃ v' w', (Builtin.append_ #[23, 23] ty #[v, .slice (some p) 1 pc]).run Try.prog w = .ok v' w' ∧ RowS w' base G v' (l ++ [s]) ∧ w.grownBy w' v.ownBlock ∧ (v'.ownBlock = v.ownBlock ∨ v'.ownBlock = some w.heap.size) := by
  obtain ⟨i0, hi, hz0, hz1, hz2⟩ := info_parts info28
  obtain ⟨xs, h1, h2⟩ := h
  obtain ⟨v', w', h5, h6, h7, _, h8⟩ := run_append_own_at (P := Try.prog) w base 23 ty 28 i0 (.agg #[.slice none 0 0, .int .i64 0, .int .i64 0]) 3 40 Try.underlying23 hi hz0 hz1 hz2 rfl (by decide) v l.length xs h1 p 1 pc (stepVals s a c) rfl hp
    (by intro u hu; simp [stepVals] at hu; rcases hu with rfl | rfl | rfl <;> rfl) (by unfold maxLen; omega) (by omega) hbase
  have hxl : xs.length = l.length * 3 := h1.1
  have hb : ∀ q : Addr, q.block < w.heap.size → some q.block ≠ v.ownBlock → some q.block ≠ v'.ownBlock := by
    intro q hq1 hq2 e
    rcases h8 with h8 | h8
    · exact hq2 (by rw [e, h8])
    · rw [h8] at e
      have e2 := Option.some.inj e
      omega
  refine ⟨v', w', h5, ⟨xs ++ stepVals s a c, by simpa using h6, fun i t ht => ?_⟩, h7, h8⟩
  by_cases hil : i < l.length
  · rw [List.getElem?_append_left hil] at ht
    obtain ⟨a2, c2, e0, e1, e2, hM2, h02⟩ := h2 i t ht
    refine ⟨a2, c2, by rw [List.getElem?_append_left (by omega)]; exact e0, by rw [List.getElem?_append_left (by omega)]; exact e1, by rw [List.getElem?_append_left (by omega)]; exact e2, hM2.grown' h7 (fun h3 q hq => (h02 h3 q hq).1), fun h3 q hq => ⟨hb q (memL_lt hM2 h3 q hq) (h02 h3 q hq).1, (h02 h3 q hq).2⟩⟩
  · rw [List.getElem?_append_right (by omega)] at ht
    obtain ⟨hi0, rfl⟩ : i = l.length ∧ t = s := by
      have : i - l.length < 1 := by simpa using (List.getElem?_eq_some_iff.1 ht).1
      have hi0 : i = l.length := by omega
      subst hi0
      simpa using ht.symm
    refine ⟨a, c, by rw [List.getElem?_append_right (by omega), show i * 3 - xs.length = 0 by omega]; rfl, by rw [List.getElem?_append_right (by omega), show i * 3 + 1 - xs.length = 1 by omega]; rfl, by rw [List.getElem?_append_right (by omega), show i * 3 + 2 - xs.length = 2 by omega]; rfl, hM.grown' h7 (fun h3 q hq => (hne h3 q hq).1), fun h3 q hq => ⟨hb q (memL_lt hM h3 q hq) (hne h3 q hq).1, (hne h3 q hq).2⟩⟩
theorem wp_append_step {w : World} {base : Nat} {G : Nat → Prop} {v : Value} {l : List PStep} {s : PStep} {ad : Option Addr} {c : Nat} {o : Oper} {a : Act} {K : Act → World → Prop} {Q : Exit → Act → World → Prop} (sl x : Operand)
    (ho : o.op = .call { callee := .builtin .append, args := #[sl, x], argTypes := #[23, 23] }) (hs : a.eval sl = v) (h : RowS w base G v l) (p : Addr) (pc : Nat) (hx : a.eval x = .slice (some p) 1 pc)
    (hp : ∀ j u, (stepVals s ad c)[j]? = some u → w.cell? (p.add j) = some u) (hM : MemL w ad c s.lits) (hne : 0 < s.lits.length → ∀ q, ad = some q → some q.block ≠ v.ownBlock ∧ G q.block) (h63 : l.length ≤ 1000) (hbase : base ≤ w.heap.size)
    (hk : ∀ v' w', RowS w' base G v' (l ++ [s]) → w.grownBy w' v.ownBlock → (v'.ownBlock = v.ownBlock ∨ v'.ownBlock = some w.heap.size) → K (a.put o.dst v') w') : o.wp Try.prog a w K Q := by
  obtain ⟨v', w', hr, h2, h3, h4⟩ := run_append_step o.type h p pc hp hM hne h63 hbase
  unfold Oper.wp execOp
  simp only [ho, resolve, invoke, builtin, Sem.run_bind, Sem.run_pure, Result.andThen_ok, List.map_toArray, List.map_cons, List.map_nil, hs, hx, hr]
  exact hk v' w' h2 h3 h4
theorem wpList_append_step {w : World} {base : Nat} {G : Nat → Prop} {v : Value} {l : List PStep} {s : PStep} {ad : Option Addr} {c : Nat} {ops : Array Oper} {rest : List Oper} {o : Oper} {a : Act} {Q : Exit → Act → World → Prop} (hgd : o.guard = none) (sl x : Operand)
    (ho : o.op = .call { callee := .builtin .append, args := #[sl, x], argTypes := #[23, 23] }) (hs : a.eval sl = v) (h : RowS w base G v l) (p : Addr) (pc : Nat) (hx : a.eval x = .slice (some p) 1 pc)
    (hp : ∀ j u, (stepVals s ad c)[j]? = some u → w.cell? (p.add j) = some u) (hM : MemL w ad c s.lits) (hne : 0 < s.lits.length → ∀ q, ad = some q → some q.block ≠ v.ownBlock ∧ G q.block) (h63 : l.length ≤ 1000) (hbase : base ≤ w.heap.size)
    (hk : ∀ v' w', RowS w' base G v' (l ++ [s]) → w.grownBy w' v.ownBlock → (v'.ownBlock = v.ownBlock ∨ v'.ownBlock = some w.heap.size) → wpList Try.prog ops Q rest (a.put o.dst v') w') : wpList Try.prog ops Q (o :: rest) a w :=
  wpList_plain hgd fun _ hK => wp_append_step sl x ho hs h p pc hx hp hM hne h63 hbase fun v' w' h2 h3 h4 => hK _ _ (hk v' w' h2 h3 h4)
theorem RowS.mono {w : World} {base : Nat} {G G' : Nat → Prop} {v : Value} {l : List PStep} (h : RowS w base G v l) (hG : ∀ k, G k → k < w.heap.size → G' k) : RowS w base G' v l := by
  obtain ⟨xs, h1, h2⟩ := h
  refine ⟨xs, h1, fun i s hs => ?_⟩
  obtain ⟨a, c, e0, e1, e2, hM, h0⟩ := h2 i s hs
  exact ⟨a, c, e0, e1, e2, hM, fun h3 p hp => ⟨(h0 h3 p hp).1, hG _ (h0 h3 p hp).2 (memL_lt hM h3 p hp)⟩⟩
theorem memL_slit {w : World} {a : Option Addr} {c x k : Nat} {T : Nat → Int} (h : Mem w .u8 a k c (fun i => T (x + i))) : MemL w a c (slit T x k) := by
  unfold MemL
  rw [slit_length]
  obtain ⟨h1, h2, h3⟩ := h
  refine ⟨h1, h2, h3.imp id ?_⟩
  rintro ⟨b, off, rfl, hc⟩
  refine ⟨b, off, rfl, fun i hi => ?_⟩
  rw [hc i hi]
  simp [slit, List.getD_eq_getElem?_getD, hi]
/-- the steps read out of memory -/
theorem RowS.mem {w : World} {base : Nat} {G : Nat → Prop} {v : Value} {l : List PStep} (h : RowS w base G v l) (h0 : 0 < l.length) : ∃ g cap, v = .slice (some ⟨g, 0, none⟩) l.length cap ∧ l.length ≤ cap ∧ StepsMem w g l ∧ base ≤ g ∧ g < w.heap.size := by
  obtain ⟨xs, h1, h2⟩ := h
  rcases h1.2 with ⟨_, h3⟩ | ⟨g, cap, cur, rfl, hb, hg, hnc, _⟩
  · omega
  · have hcell : ∀ j u, xs[j]? = some u → w.cell? ⟨g, j, none⟩ = some u := by
      intro j u hj
      have h3 := World.ownsRow.cells (g := g) h1 rfl j u hj
      have e : (⟨g, 0, none⟩ : Addr).add j = ⟨g, j, none⟩ := by unfold Addr.add; split <;> simp_all
      rw [← e]
      exact h3
    refine ⟨g, cap, rfl, hnc, fun i s hs => ?_, hb, (Array.getElem?_eq_some_iff.1 hg).1⟩
    obtain ⟨a, c, e0, e1, e2, hM, _⟩ := h2 i s hs
    exact ⟨a, c, hcell _ _ e0, hcell _ _ e1, hcell _ _ e2, hM⟩
theorem RowS.nil {w : World} (o : Obj) (h : o = .cells #[] 28) (base : Nat) (G : Nat → Prop) (hb : base ≤ w.heap.size) : RowS (w.alloc o) base G (.slice (some ⟨w.heap.size, 0, none⟩) 0 0) [] := by
  subst h
  exact ⟨[], World.ownsRow_made w #[] 0 hb (Nat.zero_le _) rfl, fun i s hs => by simp at hs⟩
/-- a block of three cells -/
def SB (w : World) (b : Nat) (v0 v1 v2 : Value) : Prop := w.heap[b]? = some (.cells #[v0, v1, v2] 28 (0, 0))
theorem SB.c0 {w : World} {b : Nat} {v0 v1 v2 : Value} (h : SB w b v0 v1 v2) : w.cell? ⟨b, 0, none⟩ = some v0 := by rw [cell_of_row w b 0 _ 28 (0, 0) h]; rfl
theorem SB.c1 {w : World} {b : Nat} {v0 v1 v2 : Value} (h : SB w b v0 v1 v2) : w.cell? ⟨b, 1, none⟩ = some v1 := by rw [cell_of_row w b 1 _ 28 (0, 0) h]; rfl
theorem SB.c2 {w : World} {b : Nat} {v0 v1 v2 : Value} (h : SB w b v0 v1 v2) : w.cell? ⟨b, 2, none⟩ = some v2 := by rw [cell_of_row w b 2 _ 28 (0, 0) h]; rfl
theorem SB.fr {w : World} {b : Nat} {v0 v1 v2 : Value} (h : SB w b v0 v1 v2) (j : Nat) : w.frozen? ⟨b, j, none⟩ = false := frozen_of_row w b j _ 28 h
theorem SB.lt {w : World} {b : Nat} {v0 v1 v2 : Value} (h : SB w b v0 v1 v2) : b < w.heap.size := (Array.getElem?_eq_some_iff.1 h).1
theorem SB.set0 {w : World} {b : Nat} {v0 v1 v2 : Value} (h : SB w b v0 v1 v2) (u : Value) : SB (w.setCell ⟨b, 0, none⟩ u) b u v1 v2 := by
  unfold SB at *
  rw [heap_setCell_same w b 0 _ 28 u h]
  rfl
theorem SB.set1 {w : World} {b : Nat} {v0 v1 v2 : Value} (h : SB w b v0 v1 v2) (u : Value) : SB (w.setCell ⟨b, 1, none⟩ u) b v0 u v2 := by
  unfold SB at *
  rw [heap_setCell_same w b 1 _ 28 u h]
  rfl
theorem SB.set2 {w : World} {b : Nat} {v0 v1 v2 : Value} (h : SB w b v0 v1 v2) (u : Value) : SB (w.setCell ⟨b, 2, none⟩ u) b v0 v1 u := by
  unfold SB at *
  rw [heap_setCell_same w b 2 _ 28 u h]
  rfl
theorem SB.grown {w w' : World} {b : Nat} {v0 v1 v2 : Value} (h : SB w b v0 v1 v2) {row : Option Nat} (hg : w.grownBy w' row) (hne : some b ≠ row) : SB w' b v0 v1 v2 := by
  have hl := h.lt
  unfold SB at *
  rw [hg.block b hl hne]
  exact h
theorem SB.new (w : World) (v0 v1 v2 : Value) : SB (w.alloc (.cells #[v0, v1, v2] 28)) w.heap.size v0 v1 v2 := heap_alloc_new w _
theorem RowS.lt {w : World} {base : Nat} {G : Nat → Prop} {v : Value} {l : List PStep} (h : RowS w base G v l) : ∀ k, v.ownBlock = some k → base ≤ k ∧ k < w.heap.size := by
  obtain ⟨xs, h1, _⟩ := h
  exact World.ownsRow.lt h1
theorem RowS.below {w w' : World} {base : Nat} {G : Nat → Prop} {v : Value} {l : List PStep} (h : RowS w base G v l) (hb : Below w.heap.size w w') : RowS w' base G v l :=
  h.grown (grown_of_below hb none) (by cases v.ownBlock <;> simp) (by simp)
theorem RowS.mem2 {w : World} {base : Nat} {G : Nat → Prop} {v : Value} {l : List PStep} (h : RowS w base G v l) (hv : v ≠ .slice none 0 0) : ∃ g cap, v = .slice (some ⟨g, 0, none⟩) l.length cap ∧ l.length ≤ cap ∧ StepsMem w g l := by
  by_cases h0 : 0 < l.length
  · obtain ⟨g, cap, h1, h2, h3, _⟩ := h.mem h0
    exact ⟨g, cap, h1, h2, h3⟩
  · obtain ⟨xs, h1, _⟩ := h
    rcases h1.2 with ⟨h3, _⟩ | ⟨g, cap, cur, h3, hb, hg, hnc, _⟩
    · exact absurd h3 hv
    · refine ⟨g, cap, h3, hnc, fun i s hs => ?_⟩
      have : l = [] := List.length_eq_zero_iff.1 (by omega)
      subst this
      simp at hs
theorem RowS.ne {w : World} {base : Nat} {G : Nat → Prop} {v : Value} {l : List PStep} (h : RowS w base G v l) (h0 : 0 < l.length) : v ≠ .slice none 0 0 := by
  obtain ⟨g, cap, h1, _⟩ := h.mem h0
  rw [h1]
  simp
end Go.Proofs.Ytkfkbbablgbfoaa
