/-
  Bytes of the call's own: what append makes of them, from whatever source (nil too), at a plain list of operations and at a step of a region that draws its order.
-/
import Derived.Test.YtbadknelbdkpmaaDoorSize
import Derived.Maps.AppendAt
namespace Go.Proofs.YtbadknelbdkpmaaDoor
open Go.RowKit
set_option linter.unusedVariables false
/-- v is a slice of the call's own that holds the bytes xs -/
def OwnB (w : World) (base : Nat) (v : Value) (xs : List Int) : Prop := w.ownsRow base 5 1 v xs.length (xs.map (Value.int .u8))
/-- a slice of the bytes xs -/
def MemL (w : World) (a : Option Addr) (c : Nat) (xs : List Int) : Prop := Mem w .u8 a xs.length c (fun i => xs.getD i 0)
theorem map_getD (xs : List Int) : ((List.range xs.length).map fun j => Value.int .u8 (xs.getD j 0)) = xs.map (Value.int .u8) := by
  refine List.ext_getElem (by simp) fun i h1 h2 => ?_
  simp only [List.length_map, List.length_range] at h1
  simp [List.getD_eq_getElem?_getD, List.getElem?_eq_getElem h1]
theorem run_append_bytes {w : World} {base : Nat} {v : Value} {xs ys : List Int} {a : Option Addr} {c : Nat} (ty : TypeId) (hown : OwnB w base v xs) (hM : MemL w a c ys) (h63 : xs.length + ys.length ≤ 1099511627776) (hbase : base ≤ w.heap.size) :
    ∃ v' w', (Builtin.append_ #[23, 23] ty #[v, .slice a ys.length c]).run Tryd.prog w = .ok v' w' ∧ OwnB w' base v' (xs ++ ys) ∧ w.grownBy w' v.ownBlock ∧ (v'.ownBlock = v.ownBlock ∨ v'.ownBlock = some w.heap.size) := by
  obtain ⟨i0, hi, hz0, hz1, hz2⟩ := info_parts info5
  obtain ⟨h1, h2, h3⟩ := hM
  cases a with
  | none =>
    have h0 : ys = [] := by
      rcases h3 with h3 | ⟨_, _, h3, _⟩
      · exact List.length_eq_zero_iff.1 h3
      · cases h3
    subst h0
    refine ⟨v, w, ?_, by simpa using hown, World.grownBy.refl _ _, .inl rfl⟩
    have hown2 : w.ownsRow base 5 1 v xs.length (xs.map (Value.int .u8)) := hown
    rcases hown2.2 with ⟨rfl, _⟩ | ⟨g, cap, cur, rfl, _, _, hnc, _⟩
    · simp [Builtin.append_, run_underlying Tryd.underlying23, sizeOf, typeInfo, hi, Builtin.lenOf, Builtin.firstCells]
    · simp [Builtin.append_, run_underlying Tryd.underlying23, sizeOf, typeInfo, hi, Builtin.lenOf, Builtin.firstCells, hnc, storeCells]
  | some p =>
    have hnews : ∀ j u, (ys.map (Value.int .u8))[j]? = some u → w.cell? (p.add j) = some u := by
      intro j u hj
      have hjl : j < ys.length := by simpa using (List.getElem?_eq_some_iff.1 hj).1
      rcases h3 with h3 | ⟨b, off, h4, h5⟩
      · omega
      · cases h4
        have e : (⟨b, off, none⟩ : Addr).add j = ⟨b, off + j, none⟩ := by cases j <;> rfl
        rw [e, h5 j hjl, ← hj]
        simp [List.getElem?_eq_getElem hjl]
    obtain ⟨v', w', h5, h6, h7, _, h8⟩ := run_append_own_at (P := Tryd.prog) w base 23 ty 5 i0 (.int .u8 0) 1 1 Tryd.underlying23 hi hz0 hz1 hz2 rfl (by decide) v xs.length _ hown p ys.length c (ys.map (Value.int .u8)) (by simp) hnews (by intro u hu; obtain ⟨x, _, rfl⟩ := List.mem_map.1 hu; rfl) (by unfold maxLen; omega) (by omega) hbase
    refine ⟨v', w', h5, ?_, h7, h8⟩
    unfold OwnB
    rw [List.length_append, List.map_append]
    exact h6
theorem wp_append_bytes {w : World} {base : Nat} {v : Value} {xs ys : List Int} {ad : Option Addr} {c : Nat} {o : Oper} {a : Act} {K : Act → World → Prop} {Q : Exit → Act → World → Prop} (s x : Operand)
    (ho : o.op = .call { callee := .builtin .append, args := #[s, x], argTypes := #[23, 23] }) (hs : a.eval s = v) (hown : OwnB w base v xs) (hx : a.eval x = .slice ad ys.length c) (hM : MemL w ad c ys)
    (h63 : xs.length + ys.length ≤ 1099511627776) (hbase : base ≤ w.heap.size)
    (h : ∀ v' w', OwnB w' base v' (xs ++ ys) → w.grownBy w' v.ownBlock → (v'.ownBlock = v.ownBlock ∨ v'.ownBlock = some w.heap.size) → K (a.put o.dst v') w') : o.wp Tryd.prog a w K Q := by
  obtain ⟨v', w', hr, h2, h3, h4⟩ := run_append_bytes o.type hown hM h63 hbase
  unfold Oper.wp execOp
  simp only [ho, resolve, invoke, builtin, Sem.run_bind, Sem.run_pure, Result.andThen_ok, List.map_toArray, List.map_cons, List.map_nil, hs, hx, hr]
  exact h v' w' h2 h3 h4
theorem wpList_append_bytes {w : World} {base : Nat} {v : Value} {xs ys : List Int} {ad : Option Addr} {c : Nat} {ops : Array Oper} {rest : List Oper} {o : Oper} {a : Act} {Q : Exit → Act → World → Prop} (hgd : o.guard = none) (s x : Operand)
    (ho : o.op = .call { callee := .builtin .append, args := #[s, x], argTypes := #[23, 23] }) (hs : a.eval s = v) (hown : OwnB w base v xs) (hx : a.eval x = .slice ad ys.length c) (hM : MemL w ad c ys)
    (h63 : xs.length + ys.length ≤ 1099511627776) (hbase : base ≤ w.heap.size)
    (h : ∀ v' w', OwnB w' base v' (xs ++ ys) → w.grownBy w' v.ownBlock → (v'.ownBlock = v.ownBlock ∨ v'.ownBlock = some w.heap.size) → wpList Tryd.prog ops Q rest (a.put o.dst v') w') : wpList Tryd.prog ops Q (o :: rest) a w :=
  wpList_plain hgd fun _ hK => wp_append_bytes s x ho hs hown hx hM h63 hbase fun v' w' h2 h3 h4 => hK _ _ (h v' w' h2 h3 h4)
theorem step_append_bytes {w : World} {base : Nat} {v : Value} {xs ys : List Int} {ad : Option Addr} {c : Nat} {ops : Array Oper} {o : Oper} {a : Act} {K : Act → World → Prop} {Q : Exit → Act → World → Prop} {E : Prop} (hgd : o.guard = none) (s x : Operand)
    (ho : o.op = .call { callee := .builtin .append, args := #[s, x], argTypes := #[23, 23] }) (hs : a.eval s = v) (hown : OwnB w base v xs) (hx : a.eval x = .slice ad ys.length c) (hM : MemL w ad c ys)
    (h63 : xs.length + ys.length ≤ 1099511627776) (hbase : base ≤ w.heap.size)
    (h : ∀ v' w', OwnB w' base v' (xs ++ ys) → w.grownBy w' v.ownBlock → (v'.ownBlock = v.ownBlock ∨ v'.ownBlock = some w.heap.size) → K (a.put o.dst v') w') :
    if Region.wanted o (yielded ops a.tmps) = true then Oper.wp Tryd.prog o a w K Q else E := by
  have hw : Region.wanted o (yielded ops a.tmps) = true := by simp [Region.wanted, hgd]
  rw [if_pos hw]
  exact wp_append_bytes s x ho hs hown hx hM h63 hbase h
/-- what was the call's own stays so, and what stood stays, behind a call that makes new memory alone, and behind a growing of another row -/
theorem OwnB.below {w w' : World} {base : Nat} {v : Value} {xs : List Int} (h : OwnB w base v xs) (hb : Below w.heap.size w w') : OwnB w' base v xs :=
  World.ownsRow.kept h (grown_of_below hb none) (by cases v.ownBlock <;> simp)
theorem OwnB.alloc {w : World} {base : Nat} {v : Value} {xs : List Int} (h : OwnB w base v xs) (o : Obj) : OwnB (w.alloc o) base v xs := World.ownsRow.alloc h o
theorem OwnB.drewN {w : World} {base : Nat} {v : Value} {xs : List Int} (h : OwnB w base v xs) (m : Nat) : OwnB (w.drewN m) base v xs := h
theorem OwnB.drew {w : World} {base : Nat} {v : Value} {xs : List Int} (h : OwnB w base v xs) : OwnB w.drew base v xs := h
theorem OwnB.lt {w : World} {base : Nat} {v : Value} {xs : List Int} (h : OwnB w base v xs) : ∀ k, v.ownBlock = some k → base ≤ k ∧ k < w.heap.size := World.ownsRow.lt h
theorem MemL.grown {w w' : World} {a : Option Addr} {c : Nat} {xs : List Int} {row : Option Nat} (h : MemL w a c xs) (hg : w.grownBy w' row) (hne : ∀ p, a = some p → some p.block ≠ row) : MemL w' a c xs := by
  obtain ⟨h1, h2, h3⟩ := h
  refine ⟨h1, h2, h3.imp id ?_⟩
  rintro ⟨b, off, rfl, hc⟩
  exact ⟨b, off, rfl, fun i hi => grown_cell hg (hc i hi) (hne ⟨b, off, none⟩ rfl)⟩
theorem MemL.below {w w' : World} {a : Option Addr} {c : Nat} {xs : List Int} (h : MemL w a c xs) (hb : Below w.heap.size w w') : MemL w' a c xs := h.grown (grown_of_below hb none) (by simp)
theorem MemL.one {w : World} {b : Nat} {x : Int} (h : w.cell? ⟨b, 0, none⟩ = some (.int .u8 x)) : MemL w (some ⟨b, 0, none⟩) 1 [x] :=
  ⟨Nat.le_refl _, by decide, .inr ⟨b, 0, rfl, fun i hi => by
    obtain rfl : i = 0 := by simpa using hi
    simpa using h⟩⟩
theorem MemL.two {w : World} {b : Nat} {x y : Int} (h : w.cell? ⟨b, 0, none⟩ = some (.int .u8 x)) (h2 : w.cell? ⟨b, 1, none⟩ = some (.int .u8 y)) : MemL w (some ⟨b, 0, none⟩) 2 [x, y] :=
  ⟨Nat.le_refl _, by decide, .inr ⟨b, 0, rfl, fun i hi => by
    simp only [List.length_cons, List.length_nil, Nat.zero_add] at hi
    rcases i with _ | _ | i
    · simpa using h
    · simpa using h2
    · omega⟩⟩
theorem OwnB.nil {w : World} (o : Obj) (h : o = .cells #[] 5) (base : Nat) (hb : base ≤ w.heap.size) : OwnB (w.alloc o) base (.slice (some ⟨w.heap.size, 0, none⟩) 0 0) [] := by
  subst h
  exact World.ownsRow_made w #[] 0 hb (Nat.zero_le _) rfl
theorem below_drewN {B : Nat} {a w : World} (h : Below B a w) (m : Nat) : Below B a (w.drewN m) := ⟨h.os, h.tape, h.output, h.size, h.block⟩
theorem own_ne {w : World} {v v' : Value} {b : Nat} (h : v'.ownBlock = v.ownBlock ∨ v'.ownBlock = some w.heap.size) (hne : v.ownBlock ≠ some b) (hb : b < w.heap.size) : v'.ownBlock ≠ some b := by
  rcases h with h | h
  · rw [h]; exact hne
  · rw [h]; intro e; cases e; omega
/-- three cells of block b are as told, what stood below 'base' is as in w -/
def BoxS (w : World) (base b : Nat) (x0 x1 x2 : Value) (w' : World) : Prop :=
  w'.cell? ⟨b, 0, none⟩ = some x0 ∧ w'.cell? ⟨b, 1, none⟩ = some x1 ∧ w'.cell? ⟨b, 2, none⟩ = some x2 ∧ Below base w w' ∧ b < w'.heap.size ∧ base ≤ w'.heap.size
theorem BoxS.grown {w w' w2 : World} {base b : Nat} {x0 x1 x2 : Value} (h : BoxS w base b x0 x1 x2 w') {row : Option Nat} (hg : w'.grownBy w2 row) (hne : row ≠ some b) (hb : ∀ k, row = some k → base ≤ k) : BoxS w base b x0 x1 x2 w2 := by
  obtain ⟨h0, h1, h2, h3, h4, h5⟩ := h
  exact ⟨grown_cell hg h0 hne.symm, grown_cell hg h1 hne.symm, grown_cell hg h2 hne.symm, h3.grown hg h5 hb, Nat.lt_of_lt_of_le h4 hg.size, Nat.le_trans h5 hg.size⟩
theorem BoxS.alloc {w w' : World} {base b : Nat} {x0 x1 x2 : Value} (h : BoxS w base b x0 x1 x2 w') (o : Obj) : BoxS w base b x0 x1 x2 (w'.alloc o) := h.grown (World.grownBy_alloc w' o none) (by simp) (by simp)
theorem BoxS.below {w w' w2 : World} {base b : Nat} {x0 x1 x2 : Value} (h : BoxS w base b x0 x1 x2 w') (hB : Below w'.heap.size w' w2) : BoxS w base b x0 x1 x2 w2 := h.grown (grown_of_below hB none) (by simp) (by simp)
theorem BoxS.drewN {w w' : World} {base b : Nat} {x0 x1 x2 : Value} (h : BoxS w base b x0 x1 x2 w') (m : Nat) : BoxS w base b x0 x1 x2 (w'.drewN m) :=
  ⟨h.1, h.2.1, h.2.2.1, below_drewN h.2.2.2.1 m, h.2.2.2.2⟩
theorem BoxS.drew {w w' : World} {base b : Nat} {x0 x1 x2 : Value} (h : BoxS w base b x0 x1 x2 w') : BoxS w base b x0 x1 x2 w'.drew :=
  ⟨h.1, h.2.1, h.2.2.1, h.2.2.2.1.drew, h.2.2.2.2⟩
end Go.Proofs.YtbadknelbdkpmaaDoor
