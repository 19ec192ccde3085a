/-
  Three moves of a walk through a region that draws its order: an operation that yields its value in every world that meets S is taken first; one whose guard does not hold is passed over; a call that alone may come up goes by its contract.
-/
import Derived.Deep.RegionHeld3
namespace Go.Proofs.YtbadknelbdkpmaaDoor
set_option linter.unusedVariables false
section
variable {P : Program} {ops : Array Oper} {Q : Exit → Act → World → Prop} {md : Region.Mode} {S : World → Prop}
theorem takeV (i d : Nat) (v : Value) {fuel : Nat} {listed : Array Bool} {L : List Value} {D : List Deferred} {w : World} (hi : i < ops.size) (hd : (ops[i]'hi).dst = some d)
    (hs : Region.noSelect ops = true) (hf : Region.free md ops listed i = true) (hr : (Region.ready md ops listed).contains i = true)
    (hQ : ∀ c (a : Act) v w, Q (.panic c) (a.put (some d) v) w → Q (.panic c) a w)
    (hw : Region.wanted (ops[i]'hi) (yielded ops L.toArray) = true) (hS : S w)
    (hy : ∀ w, S w → (execOp (Act.eval ⟨L.toArray, D⟩) (ops[i]'hi)).run P w = .ok (.value v) w)
    (h : wpAnyH P md ops Q S fuel (listed.setIfInBounds i true) ⟨(L.set d v).toArray, D⟩ w) : wpAnyH P md ops Q S (fuel + 1) listed ⟨L.toArray, D⟩ w :=
  wpAnyH_take (Array.getElem?_eq_getElem hi) hs hf hr (fun c a w => hd ▸ hQ c a v w) (.inl ⟨hw, hy⟩) hS (by rw [hd]; simpa [Act.put] using h)
theorem skipV (i d : Nat) {fuel : Nat} {listed : Array Bool} {L : List Value} {D : List Deferred} {w : World} (hi : i < ops.size) (hd : (ops[i]'hi).dst = some d)
    (hs : Region.noSelect ops = true) (hf : Region.free md ops listed i = true) (hr : (Region.ready md ops listed).contains i = true)
    (hQ : ∀ c (a : Act) v w, Q (.panic c) (a.put (some d) v) w → Q (.panic c) a w)
    (hw : Region.wanted (ops[i]'hi) (yielded ops L.toArray) = false) (hS : S w)
    (h : wpAnyH P md ops Q S fuel (listed.setIfInBounds i true) ⟨(L.set d undef).toArray, D⟩ w) : wpAnyH P md ops Q S (fuel + 1) listed ⟨L.toArray, D⟩ w :=
  wpAnyH_take (Array.getElem?_eq_getElem hi) hs hf hr (fun c a w => hd ▸ hQ c a undef w) (.inr ⟨hw, rfl⟩) hS (by rw [hd]; simpa [Act.put] using h)
theorem callV (i d : Nat) {f : FuncId} {args : Array Value} {fuel : Nat} {listed : Array Bool} {L : List Value} {D : List Deferred} {w : World} (hi : i < ops.size) (hd : (ops[i]'hi).dst = some d)
    (hr : Region.ready md ops listed = [i])
    (hw : Region.wanted (ops[i]'hi) (yielded ops L.toArray) = true)
    (hx : (execOp (Act.eval ⟨L.toArray, D⟩) (ops[i]'hi)).run P w = .ok (.enter f args) w)
    (hc : Calls P f args w fun e w' => ∃ v, e = .returned v ∧ S w' ∧ wpAnyH P md ops Q S fuel (listed.setIfInBounds i true) ⟨(L.set d v).toArray, D⟩ w') : wpAnyH P md ops Q S (fuel + 1) listed ⟨L.toArray, D⟩ w := by
  refine wpAnyH_ready hr (by simp) (AllReadyH.cons (Array.getElem?_eq_getElem hi) (fun K hK => ?_) AllReadyH.nil)
  rw [if_pos hw]
  unfold Oper.wp
  rw [hx, Oper.upon_enter]
  refine Calls.mono hc fun e w' he => ?_
  obtain ⟨v, rfl, hS, h⟩ := he
  refine hK.out _ _ hS (fun _ => ?_)
  rw [hd]
  simpa [Act.put] using h
theorem runV (i d : Nat) (v : Value) {fuel : Nat} {listed : Array Bool} {L : List Value} {D : List Deferred} {w : World} (hi : i < ops.size) (hd : (ops[i]'hi).dst = some d)
    (hr : Region.ready md ops listed = [i])
    (hw : Region.wanted (ops[i]'hi) (yielded ops L.toArray) = true) (hS : S w)
    (hx : (execOp (Act.eval ⟨L.toArray, D⟩) (ops[i]'hi)).run P w = .ok (.value v) w)
    (h : wpAnyH P md ops Q S fuel (listed.setIfInBounds i true) ⟨(L.set d v).toArray, D⟩ w) : wpAnyH P md ops Q S (fuel + 1) listed ⟨L.toArray, D⟩ w := by
  refine wpAnyH_ready hr (by simp) (AllReadyH.cons (Array.getElem?_eq_getElem hi) (fun K hK => ?_) AllReadyH.nil)
  rw [if_pos hw]
  unfold Oper.wp
  rw [hx, Oper.upon_value]
  refine hK.out _ _ hS (fun _ => ?_)
  rw [hd]
  simpa [Act.put] using h
end
end Go.Proofs.YtbadknelbdkpmaaDoor
