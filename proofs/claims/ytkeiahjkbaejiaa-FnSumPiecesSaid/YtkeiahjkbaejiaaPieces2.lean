/-
  The contract of impl.SumPieces: the pieces are cloned one by one, and summed.
-/
import Derived.Test.YtkeiahjkbaejiaaPieces
import Derived.Maps.AppendAt
namespace Go.Proofs.Ytkeiahjkbaejiaa
open Go.RowKit Go.Maps
set_option linter.unusedVariables false
def ClonedOwn (w : World) (n : Nat) (D : Nat → Int) (e : Ending) (w' : World) : Prop :=
  ∃ a' c', e = .returned (.slice a' n c') ∧ Mem w' .u8 a' n c' D ∧ (∀ x, a' = some x → w.heap.size ≤ x.block ∧ x.block < w'.heap.size) ∧ Below w.heap.size w w'
theorem mem_of_owns2 {w : World} {base n : Nat} {v : Value} {D : Nat → Int} (h : w.ownsRow base 5 1 v n ((List.range n).map fun i => Value.int .u8 (D i))) :
    ∃ a' c', v = .slice a' n c' ∧ Mem w .u8 a' n c' D ∧ (∀ x, a' = some x → base ≤ x.block ∧ x.block < w.heap.size) := by
  have h2 := h.lt
  obtain ⟨a', c', rfl, h1, _⟩ := mem_of_owns h
  exact ⟨a', c', rfl, h1, fun x hx => h2 x.block (by rw [hx]; rfl)⟩
set_option maxHeartbeats 1000000 in
theorem clone_own_at (a : Addr) (n c : Nat) (D : Nat → Int) (w : World) (hn : n ≤ 140737488355328) (hc : ∀ i, i < n → w.cell? (a.add i) = some (.int .u8 (D i))) :
    Calls Try.prog 13 #[.slice (some a) n c] w (ClonedOwn w n D) := by
  have q := fun (w : World) (a : Option Addr) (n c n' c' : Nat) => Lib.run_eql_slice_nil (P := Try.prog) w 25 5 a n c n' c' Try.underlying25
  obtain ⟨i0, hi, hz0, hz1, hz2⟩ := info_parts info5
  have HC := Lib.hid hc
  clear hc
  go_enter Try.func13, Try.ntmps13
  go_wp2_with (at_builtin; refine wpList_append_own _ rfl _ _ 25 rfl w.heap.size 5 i0 (.int .u8 0) 1 1 Try.underlying25 hi hz0 hz1 hz2 rfl (by decide) _ _ _ rfl (World.ownsRow_made w #[] 0 (Nat.le_refl _) (Nat.zero_le _) rfl) a n c ((List.range n).map fun i => Value.int .u8 (D i)) rfl ?qc1 ?qc2 ?qc3 ?qc4 ?qc5 ?qc6 ?_)
  case qc1 => simp
  case qc2 =>
    intro j u hj
    have hjn : j < n := by
      have := (List.getElem?_eq_some_iff.1 hj).1
      simpa using this
    refine Lib.cell?_alloc_some _ ?_
    rw [HC.out j hjn]
    simpa [hjn] using hj
  case qc3 => intro u hu; obtain ⟨x, _, rfl⟩ := List.mem_map.1 hu; rfl
  case qc4 => unfold maxLen; omega
  case qc5 => omega
  case qc6 => simp
  intro v' w1 hown hgrow hnil
  go_wp2
  go_ret
  have hown' : w1.ownsRow w.heap.size 5 1 v' n ((List.range n).map fun i => Value.int .u8 (D i)) := by simpa using hown
  obtain ⟨a', c', rfl, hm, ho⟩ := mem_of_owns2 hown'
  exact ⟨a', c', rfl, hm, ho, ((Below.refl _ w).alloc (Nat.le_refl _) _).grown hgrow (by simp) (by intro k hk; simp [Value.ownBlock] at hk; omega)⟩
theorem clone_own (a : Option Addr) (n c : Nat) (D : Nat → Int) (w : World) (hn : n ≤ 140737488355328) (hM : Mem w .u8 a n c D) :
    Calls Try.prog 13 #[.slice a n c] w (ClonedOwn w n D) := by
  obtain ⟨h1, h2, h3⟩ := hM
  cases a with
  | none =>
    obtain rfl : n = 0 := by rcases h3 with h | ⟨b, off, h, _⟩ <;> simp_all
    exact (clone_nil 0 c w).mono fun e w' ⟨he, hw⟩ => ⟨none, 0, he, ⟨by omega, by omega, .inl rfl⟩, by simp, hw ▸ Below.refl _ _⟩
  | some x =>
    refine clone_own_at x n c D w hn ?_
    rcases h3 with h | ⟨b, off, h, hc⟩
    · intro i hi; omega
    · obtain rfl : x = ⟨b, off, none⟩ := by simpa using h
      exact fun i hi => by rw [← hc i hi]; cases i <;> rfl
/-- pieces none of which lies in the block o -/
def CutO (w : World) (o : Option Nat) (D : Nat → Int) : Nat → List Value → Nat → Prop
  | t, [], T => T = t
  | t, v :: r, T => ∃ a n c, v = .slice a n c ∧ Mem w .u8 a n c (fun i => D (t + i)) ∧ (∀ x, a = some x → x.block < w.heap.size ∧ some x.block ≠ o) ∧ CutO w o D (t + n) r T
theorem CutO.cut {w : World} {o : Option Nat} {D : Nat → Int} : ∀ {vs : List Value} {t T : Nat}, CutO w o D t vs T → Cut w D t vs T
  | [], _, _, h => h
  | v :: r, _, _, ⟨a, n, c, h1, h2, h3, h4⟩ => ⟨a, n, c, h1, h2, fun x hx => (h3 x hx).1, h4.cut⟩
theorem mem_grown {w w' : World} {o : Option Nat} {a : Option Addr} {n c : Nat} {E : Nat → Int} (h : Mem w .u8 a n c E) (hg : w.grownBy w' o) (hne : ∀ x, a = some x → some x.block ≠ o) : Mem w' .u8 a n c E := by
  obtain ⟨h1, h2, h3⟩ := h
  refine ⟨h1, h2, h3.imp id ?_⟩
  rintro ⟨b, off, rfl, hc⟩
  exact ⟨b, off, rfl, fun i hi => grown_cell hg (hc i hi) (hne ⟨b, off, none⟩ rfl)⟩
theorem CutO.grown {w w' : World} {o o' : Option Nat} {D : Nat → Int} (hg : w.grownBy w' o) (ho : o' = o ∨ ∃ g, o' = some g ∧ w.heap.size ≤ g) : ∀ {vs : List Value} {t T : Nat}, CutO w o D t vs T → CutO w' o' D t vs T
  | [], _, _, h => h
  | v :: r, _, _, ⟨a, n, c, h1, h2, h3, h4⟩ => by
    refine ⟨a, n, c, h1, mem_grown h2 hg (fun x hx => (h3 x hx).2), fun x hx => ?_, h4.grown hg ho⟩
    have := h3 x hx
    have hs := hg.size
    refine ⟨by omega, ?_⟩
    rcases ho with rfl | ⟨g, rfl, hgl⟩
    · exact this.2
    · intro e; have := Option.some.inj e; omega
theorem CutO.snoc {w : World} {o : Option Nat} {D : Nat → Int} {a : Option Addr} {n c : Nat} : ∀ {vs : List Value} {t T : Nat}, CutO w o D t vs T → Mem w .u8 a n c (fun i => D (T + i)) → (∀ x, a = some x → x.block < w.heap.size ∧ some x.block ≠ o) → CutO w o D t (vs ++ [.slice a n c]) (T + n)
  | [], t, T, h, h2, h3 => by
    have e : T = t := h
    subst e
    exact ⟨a, n, c, rfl, h2, h3, rfl⟩
  | v :: r, t, T, ⟨a', n', c', h1', h2', h3', h4'⟩, h2, h3 => ⟨a', n', c', h1', h2', h3', h4'.snoc h2 h3⟩
/-- the same, wherever the pieces lie -/
def CutW (w : World) (D : Nat → Int) : Nat → List Value → Nat → Prop
  | t, [], T => T = t
  | t, v :: r, T => ∃ a n c, v = .slice a n c ∧ Mem w .u8 a n c (fun i => D (t + i)) ∧ CutW w D (t + n) r T
theorem CutW.le {w : World} {D : Nat → Int} : ∀ {vs : List Value} {t T : Nat}, CutW w D t vs T → t ≤ T
  | [], t, T, h => by have : T = t := h; omega
  | v :: r, t, T, h => by
    obtain ⟨a, n, c, _, _, h'⟩ := h
    have := h'.le
    omega
theorem CutO.cutW {w : World} {o : Option Nat} {D : Nat → Int} : ∀ {vs : List Value} {t T : Nat}, CutO w o D t vs T → CutW w D t vs T
  | [], _, _, h => h
  | v :: r, _, _, ⟨a, n, c, h1, h2, _, h4⟩ => ⟨a, n, c, h1, h2, h4.cutW⟩
theorem CutW.grown {w w' : World} {D : Nat → Int} (hb : Below w.heap.size w w') : ∀ {vs : List Value} {t T : Nat}, CutW w D t vs T → CutW w' D t vs T
  | [], _, _, h => h
  | v :: r, _, _, ⟨a, n, c, h1, h2, h4⟩ => ⟨a, n, c, h1, h2.below hb, h4.grown hb⟩
theorem own_below {B : Nat} {w w' : World} {e : TypeId} {v : Value} {n : Nat} {xs : List Value} (h : w.ownsRow B e 1 v n xs) (hb : Below w.heap.size w w') : w'.ownsRow B e 1 v n xs := by
  refine h.kept (grown_of_below hb none) ?_
  cases v.ownBlock with
  | none => exact .inl rfl
  | some k => exact .inr (by simp)
/-- a round: one piece more -/
theorem rel_piece {wr w2 w3 : World} {l v' : Value} {ls : List Value} {D : Nat → Int} {t n c2 : Nat} {a2 : Option Addr} {B : Nat} (hO : wr.ownsRow B 25 1 l ls.length ls) (hCO : CutO wr l.ownBlock D 0 ls t)
    (hM2 : Mem w2 .u8 a2 n c2 (fun i => D (t + i))) (hblk : ∀ x, a2 = some x → wr.heap.size ≤ x.block ∧ x.block < w2.heap.size) (hb : Below wr.heap.size wr w2)
    (hg : (w2.alloc (.cells #[.slice a2 n c2] 25)).grownBy w3 l.ownBlock) (hloc : v'.ownBlock = l.ownBlock ∨ v'.ownBlock = some (w2.alloc (.cells #[.slice a2 n c2] 25)).heap.size) :
    CutO w3 v'.ownBlock D 0 (ls ++ [.slice a2 n c2]) (t + n) := by
  have h1 : CutO w2 l.ownBlock D 0 ls t := hCO.grown (grown_of_below hb _) (.inl rfl)
  have h2 := h1.snoc hM2 (fun x hx => by
    have := hblk x hx
    refine ⟨this.2, ?_⟩
    intro e
    have := hO.lt _ e.symm
    omega)
  have h3 := h2.grown (World.grownBy_alloc w2 (.cells #[.slice a2 n c2] 25) _) (.inl rfl)
  exact h3.grown hg (hloc.imp id fun h => ⟨_, h, Nat.le_refl _⟩)
theorem info25 : (Try.prog.info? 25).map (fun i => (i.zero, i.size, i.bytes)) = some (some (.slice none 0 0), 1, 24) := by kernel_rfl
set_option maxHeartbeats 1000000 in
theorem spieces_any (pa : Option Addr) (np pc : Nat) (vs : List Value) (D : Nat → Int) (T : Nat) (w : World) (hD : ∀ i, 0 ≤ D i ∧ D i ≤ 255) (hT : T ≤ 65536) (hl : vs.length = np) (hnp : np ≤ 65537)
    (hc : np = 0 ∨ ∃ b off, pa = some ⟨b, off, none⟩ ∧ ∀ i (h : i < vs.length), w.cell? ⟨b, off + i, none⟩ = some vs[i]) (hC : CutW w D 0 vs T) :
    Calls Try.prog 9 #[.slice pa np pc] w fun e w' => e = .returned (.int .u32 (sumOf D T)) ∧ Below w.heap.size w w' := by
  obtain ⟨i0, hi, hz0, hz1, hz2⟩ := info_parts info25
  have HC := Lib.hid hc
  have HCUT := Lib.hid hC
  have HD := Lib.hid hD
  clear hc hC hD
  go_enter Try.func9, Try.ntmps9
  go_wp2
  go_loopw [3, 5, 8] (fun l _ i wr => ∃ (k t : Nat) (ls : List Value), k ≤ np ∧ i = .int .i64 (k : Int) ∧ ls.length = k ∧ Hid (wr.ownsRow w.heap.size 25 1 l ls.length ls ∧ CutO wr l.ownBlock D 0 ls t ∧ CutW w D t (vs.drop k) T ∧ Below w.heap.size w wr))
    (fun _ _ i _ => np - (intOf i).toNat)
  case atStart => exact ⟨0, 0, [], by omega, rfl, rfl, World.ownsRow_nil _ _ _ _, rfl, HCUT.out, Below.refl _ _⟩
  case round =>
    obtain ⟨k, t, ls, hk, rfl, hls, HI⟩ := hrel
    by_cases hlt : k < np
    · obtain ⟨b, off, hpa, hcell⟩ : ∃ b off, pa = some (⟨b, off, none⟩ : Addr) ∧ ∀ i (h : i < vs.length), w.cell? ⟨b, off + i, none⟩ = some vs[i] := by
        rcases HC.out with h | h
        · omega
        · exact h
      subst hpa
      obtain ⟨hO, hCO, hC, hB⟩ := HI.out
      rw [List.drop_eq_getElem_cons (show k < vs.length by omega)] at hC
      obtain ⟨a, n, c, hv, hM, hC'⟩ := hC
      have hcw := hcell k (by omega)
      rw [hv] at hcw
      have hbl := World.block_lt_of_cell? w _ hcw
      have hcW : wr.cell? ⟨b, off + k, none⟩ = some (.slice a n c) := by
        rw [hB.cell (p := ⟨b, off + k, none⟩) hbl]
        exact hcw
      have HM := Lib.hid (hM.below hB)
      have HC' := Lib.hid hC'
      have HO := Lib.hid hO
      have HCO := Lib.hid hCO
      have HB := Lib.hid hB
      have htn := hC'.le
      have HLS := Lib.hid hls
      clear hcw hcell hbl hC' hM hv HI hO hCO hB hls
      go_wp2_with (first
        | (go_at_call 13; refine Calls.mono (clone_own a n c _ _ (by omega) HM.out) ?_; rintro e w2 ⟨a2, c2, rfl, hM2, hblk2, hb2⟩; (have HM2 := Lib.hid hM2); (have HBLK2 := Lib.hid hblk2); (have HB2 := Lib.hid hb2); clear hM2 hblk2 hb2)
        | (at_builtin; refine wpList_append_own_at _ rfl _ _ 31 rfl w.heap.size 25 i0 (.slice none 0 0) 1 24 Try.underlying31 hi hz0 hz1 hz2 rfl (by decide) _ _ _ rfl ((own_below HO.out HB2.out).alloc _) ⟨w2.heap.size, 0, none⟩ 1 1 [.slice a2 n c2] rfl rfl (cell_one_new _ _ _) (by intro u hu; simp at hu; subst hu; rfl) (by unfold maxLen; have := HLS.out; omega) (by have := HLS.out; omega) (by have := HB.out.size; have := HB2.out.size; simp; omega) ?_; intro v' w3 hown' hgrow _ hloc; (have HP := Lib.hid (rel_piece HO.out HCO.out HM2.out HBLK2.out HB2.out hgrow hloc)); (have HOWN := Lib.hid hown'); (have HGR := Lib.hid hgrow); clear hown' hgrow hloc))
      go_roundw
      case rel =>
        refine ⟨k + 1, t + n, ls ++ [.slice a2 n c2], by omega, by go_num, by have := HLS.out; simp; omega, by simpa using HOWN.out, HP.out, HC'.out, ?_⟩
        have h1 : Below w.heap.size w w2 := HB.out.trans (HB2.out.mono HB.out.size)
        refine (h1.alloc h1.size _).grown HGR.out (by have := h1.size; simp; omega) ?_
        intro j hj
        exact (HO.out.lt j hj).1
      case measure => simp [intOf]; omega
    · have hke : k = np := by omega
      have hT : T = t := by
        obtain ⟨_, _, hC, _⟩ := HI.out
        rw [List.drop_eq_nil_of_le (by omega)] at hC
        exact hC
      have HT := Lib.hid hT
      clear hT
      have hd : decide ((k : Int) < (np : Int)) = false := by simp; omega
      obtain ⟨hO, hCO, _, hB⟩ := HI.out
      rcases hO.2 with ⟨rfl, h0⟩ | ⟨gb, capb, cur, rfl, hbb, hgb, hnb, hcb, hszb, htk⟩
      · have HK := Lib.hid hke
        have HLS := Lib.hid hls
        have hz : ls = [] := List.eq_nil_of_length_eq_zero h0
        subst hz
        have HCO := Lib.hid hCO
        have HB := Lib.hid hB
        clear hke hO hCO hB hls h0
        go_wp2_with (go_at_call 16; refine Calls.mono (zpieces_any none 0 0 [] D T wr HD.out hT rfl (by omega) (.inl rfl) (by rw [HT.out]; exact HCO.out.cut)) ?_; rintro e w2 ⟨rfl, hb2⟩; (have HB2 := Lib.hid hb2); clear hb2)
        go_ret
        exact ⟨rfl, HB.out.trans (HB2.out.mono HB.out.size)⟩
      · have HK := Lib.hid hke
        have HLS := Lib.hid hls
        have HCO := Lib.hid hCO
        have HB := Lib.hid hB
        have HO := Lib.hid hO
        clear hke hO hCO hB hls hgb htk hszb
        go_wp2_with (go_at_call 16; refine Calls.mono (zpieces_any (some ⟨gb, 0, none⟩) ls.length capb ls D T wr HD.out hT rfl (by have := HLS.out; omega) (.inr ⟨gb, 0, rfl, fun i h => by rw [Nat.zero_add, HO.out.cellAt i (by omega)]; simp [h]⟩) (by rw [HT.out]; exact HCO.out.cut)) ?_; rintro e w2 ⟨rfl, hb2⟩; (have HB2 := Lib.hid hb2); clear hb2)
        go_ret
        exact ⟨rfl, HB.out.trans (HB2.out.mono HB.out.size)⟩
end Go.Proofs.Ytkeiahjkbaejiaa
