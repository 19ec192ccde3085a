/-
  spec.Plain: the bytes that sequences tell behind a dictionary.
-/
import Derived.Test.YtkfkbbablgbfoaaSteps
import Derived.Deep.AppendLies
namespace Go.Proofs.Ytkfkbbablgbfoaa
open Go.RowKit
set_option linter.unusedVariables false
set_option maxHeartbeats 1000000
set_option maxRecDepth 20000
/-- what spec.Plain answers: the bytes, or nothing where a match stands ahead, or there are more than most -/
def plain (D : Nat → Int) (dn most : Nat) : List PStep → List Int → Option (List Int)
  | [], out => some out
  | s :: rest, out => if (0 < s.len ∧ dn + (out ++ s.lits).length < s.far) ∨ most < (out ++ s.lits).length + s.len then none else plain D dn most rest (repeated D dn s.far s.len (out ++ s.lits))
def rep (o : Nat) : Nat → List Int → List Int
  | 0, L => L
  | m + 1, L => rep o m (L ++ [L.getD (L.length - o) 0])
theorem rep_repeated (dl : List Int) (o : Nat) (ho : 0 < o) : ∀ (m : Nat) (out : List Int), o ≤ dl.length + out.length → dl ++ repeated (fun i => dl.getD i 0) dl.length o m out = rep o m (dl ++ out)
  | 0, out, h => rfl
  | m + 1, out, h => by
    rw [repeated, rep, rep_repeated dl o ho m _ (by simp; omega), List.append_assoc]
    congr 3
    unfold back
    split
    · rename_i hlt
      simp only [List.length_append]
      rw [List.getD_eq_getElem?_getD, List.getD_eq_getElem?_getD, List.getElem?_append_left (l₁ := dl) (l₂ := out) (i := dl.length + out.length - o) (by omega)]
    · rename_i hlt
      simp only [List.length_append]
      rw [List.getD_eq_getElem?_getD, List.getD_eq_getElem?_getD, List.getElem?_append_right (l₁ := dl) (l₂ := out) (i := dl.length + out.length - o) (by omega), show dl.length + out.length - o - dl.length = out.length - o by omega]
theorem rep_repeated' (dl : List Int) (o m : Nat) (out : List Int) (h : 0 < m → 0 < o ∧ o ≤ dl.length + out.length) : dl ++ repeated (fun i => dl.getD i 0) dl.length o m out = rep o m (dl ++ out) := by
  rcases Nat.eq_zero_or_pos m with rfl | hm
  · rfl
  · exact rep_repeated dl o (h hm).1 m out (h hm).2
theorem rep_length (o : Nat) : ∀ (m : Nat) (L : List Int), (rep o m L).length = L.length + m
  | 0, L => rfl
  | m + 1, L => by rw [rep, rep_length]; simp; omega
/-- the answer -/
def PlainAns (w : World) (r : Option (List Int)) (e : Ending) (w' : World) : Prop :=
  Below w.heap.size w w' ∧ match r with
    | none => e = .returned (.tuple #[.slice none 0 0, .bool false])
    | some x => ∃ a c, e = .returned (.tuple #[.slice a x.length c, .bool true]) ∧ MemL w' a c x
theorem OwnB.cell {w : World} {base g n cap : Nat} {xs : List Int} (h : OwnB w base (.slice (some ⟨g, 0, none⟩) n cap) xs) (i : Nat) (hi : i < xs.length) : w.cell? ⟨g, i, none⟩ = some (.int .u8 (xs.getD i 0)) := by
  have h1 := World.ownsRow.cells (g := g) h rfl i (.int .u8 (xs.getD i 0)) (by simp [List.getD_eq_getElem?_getD, List.getElem?_eq_getElem hi])
  have e : (⟨g, 0, none⟩ : Addr).add i = ⟨g, i, none⟩ := by unfold Addr.add; split <;> simp_all
  rw [← e]
  exact h1
theorem nil_or_row {w : World} {base : Nat} {e : TypeId} {size : Nat} {v : Value} {n : Nat} {xs : List Value} (h : w.ownsRow base e size v n xs) : (v = .slice none 0 0 ∧ n = 0) ∨ ∃ g cap, v = .slice (some ⟨g, 0, none⟩) n cap := by
  rcases h.2 with h | ⟨g, cap, _, h, _⟩
  · exact .inl h
  · exact .inr ⟨g, cap, h⟩
theorem OwnB.slice {w : World} {base : Nat} {v : Value} {xs : List Int} (h : OwnB w base v xs) : ∃ a c, v = .slice a xs.length c ∧ ((a = none ∧ c = 0 ∧ xs = []) ∨ ∃ g, a = some ⟨g, 0, none⟩) := by
  rcases nil_or_row h with ⟨rfl, h0⟩ | ⟨g, cap, rfl⟩
  · exact ⟨none, 0, by rw [h0], .inl ⟨rfl, rfl, List.length_eq_zero_iff.1 h0⟩⟩
  · exact ⟨_, cap, rfl, .inr ⟨g, rfl⟩⟩
theorem OwnB.mem {w : World} {base n c : Nat} {a : Option Addr} {xs : List Int} (h : OwnB w base (.slice a n c) xs) : MemL w a c xs := by
  have h1 : w.ownsRow base 5 1 (.slice a n c) xs.length (xs.map (Value.int .u8)) := h
  rw [← map_getD] at h1
  obtain ⟨a', c', e, hm, _⟩ := mem_of_owns h1
  cases e
  exact hm
theorem MemL.drop {w : World} {a : Option Addr} {c : Nat} {dl out : List Int} (h : MemL w a c (dl ++ out)) (hc : c ≠ dl.length) : MemL w (a.map (fun x => x.add dl.length)) (c - dl.length) out := by
  obtain ⟨h1, h2, h3⟩ := h
  simp only [List.length_append] at h1 h3
  refine ⟨by omega, by omega, ?_⟩
  by_cases h0 : out.length = 0
  · exact .inl h0
  · rcases h3 with h3 | ⟨b, off, rfl, hcell⟩
    · omega
    · refine .inr ⟨b, off + dl.length, by cases dl.length <;> rfl, fun i hi => ?_⟩
      rw [Nat.add_assoc, hcell (dl.length + i) (by omega)]
      simp [List.getD_eq_getElem?_getD, List.getElem?_append_right]
theorem plain9 (g cap : Nat) (l : List PStep) (dl : List Int) (da : Option Addr) (dc most : Nat) (w : World) (h : StepsMem w g l) (hd : MemL w da dc dl) (hl : l.length ≤ cap) (h2 : l.length ≤ 1000) (h3 : dl.length ≤ 1000000) (h4 : most ≤ 1000000000)
    (hl3 : ∀ (i : Nat) (s : PStep), l[i]? = some s → s.lits.length ≤ 1000000 ∧ s.len ≤ 1000000 ∧ s.far < 65536 ∧ (0 < s.len → 0 < s.far)) :
    Calls Try.prog 9 #[.slice (some ⟨g, 0, none⟩) l.length cap, .slice da dl.length dc, .int .i64 (most : Int)] w (PlainAns w (plain (fun i => dl.getD i 0) dl.length most l [])) := by
  have H := Lib.hid h
  have HD := Lib.hid hd
  clear h hd
  generalize hD : (fun i => dl.getD i 0) = D
  go_enter Try.func9, Try.ntmps9
  go_wp2_with (at_builtin
               refine wpList_append_bytes (base := w.heap.size) (xs := []) (ys := dl) rfl (.tmp 11) (.tmp 12) rfl rfl (OwnB.nil _ rfl _ (Nat.le_refl _)) rfl (HD.out.below ((Below.refl _ _).alloc (Nat.le_refl _) _)) (by simp; omega) (by simp) ?_
               intro v1 w1 own1 hgr1 hat1
               have HO1 := Lib.hid own1
               have HB1 := Lib.hid (Below.grown ((Below.refl w.heap.size w).alloc (Nat.le_refl _) _) hgr1 (by simp) (by intro k hk; cases hk; exact Nat.le_refl _))
               clear own1 hgr1 hat1)
  go_loopw [8, 16] (fun o p wr => ∃ (i : Nat) (out : List Int), i ≤ l.length ∧ out.length ≤ most ∧ p = .int .i64 (i : Int) ∧ Hid (plain D dl.length most l [] = plain D dl.length most (l.drop i) out) ∧
      Hid (OwnB wr w.heap.size o (dl ++ out) ∧ Below w.heap.size w wr))
    (fun _ p _ => match p with | .int _ r => l.length - r.toNat | _ => 0)
  case atStart => exact ⟨0, [], by omega, by simp, rfl, Lib.hid rfl, Lib.hid ⟨by simpa using HO1.out, HB1.out⟩⟩
  case round =>
    obtain ⟨i, out, hi, hout, rfl, HP, HI⟩ := hrel
    by_cases hil : i < l.length
    · have l1 : (i : Int) < (l.length : Int) := by omega
      obtain ⟨a, c, c0', c1', c2', hM⟩ := H.out i l[i] (by simp [hil])
      have c0 := cell_below HI.out.2 c0'
      have c1 := cell_below HI.out.2 c1'
      have c2 := cell_below HI.out.2 c2'
      clear c0' c1' c2'
      obtain ⟨hb1, hb2, hb3, hb4⟩ := hl3 i l[i] (by simp [hil])
      generalize hse : l[i] = s at c0 c1 c2 hM hb1 hb2 hb3 hb4
      have HL := Lib.hid hM
      clear hM
      generalize hn : (dl ++ out ++ s.lits).length = n
      have hn2 : dl.length + out.length + s.lits.length = n := by rw [← hn]; simp; omega
      have hnb : n ≤ 1100000000 := by omega
      have HSE : Hid (l.drop i = s :: l.drop (i + 1)) := Lib.hid (by rw [List.drop_eq_getElem_cons hil, hse])
      clear hse
      by_cases hp : 0 < s.len
      · have hp1 : (0 : Int) < (s.len : Int) := by omega
        by_cases hf : n < s.far
        · have hf1 : (n : Int) < (s.far : Int) := by omega
          go_wp2_with (
            at_builtin
            refine wpList_append_bytes (base := w.heap.size) (xs := dl ++ out) (ys := s.lits) rfl (.tmp 20) (.tmp 22) rfl rfl (HI.out.1.alloc _) rfl ((HL.out.below HI.out.2).below ((Below.refl _ _).alloc (Nat.le_refl _) _)) (by simp; omega) (by have := HI.out.2.size; simp; omega) ?_
            intro v2 w2 own2 hgr2 hat2
            have HX := Lib.hid (BoxS.grown (base := w.heap.size) (b := wr.heap.size) (x0 := .slice a s.lits.length c) (x1 := .int .i64 (s.far : Int)) (x2 := .int .i64 (s.len : Int)) ⟨by simp [go_sem], by simp [go_sem], by simp [go_sem], HI.out.2.alloc HI.out.2.size _, by simp, by have := HI.out.2.size; simp; omega⟩ hgr2 (by intro e; have := (HI.out.1.lt _ e).2; omega) (fun k hk => (HI.out.1.lt k hk).1))
            have HN := Lib.hid (own_ne (b := wr.heap.size) hat2 (by intro e; have := (HI.out.1.lt _ e).2; omega) (by simp))
            have HO := Lib.hid own2
            obtain ⟨ga, gc, hform0, hform⟩ := own2.slice
            rw [hn] at hform0
            subst hform0
            have HF := Lib.hid hform
            obtain ⟨d0, d1, d2, _⟩ := HX.out
            clear own2 hgr2 hat2 hform)
          (
            go_ret2
            refine ⟨HX.out.2.2.2.1, ?_⟩
            rw [HP.out, HSE.out, plain, if_pos (by simp; omega)]
            rfl)
        · have hf1 : ¬ (n : Int) < (s.far : Int) := by omega
          by_cases hm : most < out.length + s.lits.length + s.len
          · have hm1 : (most : Int) < (n : Int) + (s.len : Int) - (dl.length : Int) := by omega
            go_wp2_with (
              at_builtin
              refine wpList_append_bytes (base := w.heap.size) (xs := dl ++ out) (ys := s.lits) rfl (.tmp 20) (.tmp 22) rfl rfl (HI.out.1.alloc _) rfl ((HL.out.below HI.out.2).below ((Below.refl _ _).alloc (Nat.le_refl _) _)) (by simp; omega) (by have := HI.out.2.size; simp; omega) ?_
              intro v2 w2 own2 hgr2 hat2
              have HX := Lib.hid (BoxS.grown (base := w.heap.size) (b := wr.heap.size) (x0 := .slice a s.lits.length c) (x1 := .int .i64 (s.far : Int)) (x2 := .int .i64 (s.len : Int)) ⟨by simp [go_sem], by simp [go_sem], by simp [go_sem], HI.out.2.alloc HI.out.2.size _, by simp, by have := HI.out.2.size; simp; omega⟩ hgr2 (by intro e; have := (HI.out.1.lt _ e).2; omega) (fun k hk => (HI.out.1.lt k hk).1))
              have HN := Lib.hid (own_ne (b := wr.heap.size) hat2 (by intro e; have := (HI.out.1.lt _ e).2; omega) (by simp))
              have HO := Lib.hid own2
              obtain ⟨ga, gc, hform0, hform⟩ := own2.slice
              rw [hn] at hform0
              subst hform0
              have HF := Lib.hid hform
              obtain ⟨d0, d1, d2, _⟩ := HX.out
              clear own2 hgr2 hat2 hform)
            (
              go_ret2
              refine ⟨HX.out.2.2.2.1, ?_⟩
              rw [HP.out, HSE.out, plain, if_pos (by simp; omega)]
              rfl)
          · have hm1 : ¬ (most : Int) < (n : Int) + (s.len : Int) - (dl.length : Int) := by omega
            go_wp2_with (
              at_builtin
              refine wpList_append_bytes (base := w.heap.size) (xs := dl ++ out) (ys := s.lits) rfl (.tmp 20) (.tmp 22) rfl rfl (HI.out.1.alloc _) rfl ((HL.out.below HI.out.2).below ((Below.refl _ _).alloc (Nat.le_refl _) _)) (by simp; omega) (by have := HI.out.2.size; simp; omega) ?_
              intro v2 w2 own2 hgr2 hat2
              have HX := Lib.hid (BoxS.grown (base := w.heap.size) (b := wr.heap.size) (x0 := .slice a s.lits.length c) (x1 := .int .i64 (s.far : Int)) (x2 := .int .i64 (s.len : Int)) ⟨by simp [go_sem], by simp [go_sem], by simp [go_sem], HI.out.2.alloc HI.out.2.size _, by simp, by have := HI.out.2.size; simp; omega⟩ hgr2 (by intro e; have := (HI.out.1.lt _ e).2; omega) (fun k hk => (HI.out.1.lt k hk).1))
              have HN := Lib.hid (own_ne (b := wr.heap.size) hat2 (by intro e; have := (HI.out.1.lt _ e).2; omega) (by simp))
              have HO := Lib.hid own2
              obtain ⟨ga, gc, hform0, hform⟩ := own2.slice
              rw [hn] at hform0
              subst hform0
              have HF := Lib.hid hform
              obtain ⟨d0, d1, d2, _⟩ := HX.out
              clear own2 hgr2 hat2 hform)
            (
              go_loopw [8, 48] (fun o p wx => ∃ (j : Nat) (L : List Int), j ≤ s.len ∧ p = .int .i64 (j : Int) ∧ Hid (rep s.far (s.len - j) L = rep s.far s.len (dl ++ out ++ s.lits)) ∧ Hid (L.length = n + j) ∧
                  Hid (OwnB wx w.heap.size o L ∧ o.ownBlock ≠ some wr.heap.size ∧ BoxS w w.heap.size wr.heap.size (.slice a s.lits.length c) (.int .i64 (s.far : Int)) (.int .i64 (s.len : Int)) wx))
                (fun _ p _ => match p with | .int _ r => s.len - r.toNat | _ => 0)
              case atStart => exact ⟨0, _, by omega, rfl, Lib.hid rfl, Lib.hid (by omega), Lib.hid ⟨HO.out, HN.out, HX.out⟩⟩
              case round =>
                obtain ⟨j, L, hj, rfl, HR, HLn, HI3⟩ := hrel
                by_cases hjm : j < s.len
                · have l2 : (j : Int) < (s.len : Int) := by omega
                  obtain ⟨g1, cap1, rfl, hg1, hg2⟩ := World.ownsRow.form HI3.out.1 (by have := HLn.out; omega)
                  obtain ⟨d0, d1, d2, _⟩ := HI3.out.2.2
                  have hcell := OwnB.cell HI3.out.1 (n + j - s.far) (by have := HLn.out; omega)
                  have hLn := HLn.out
                  generalize hY : L.getD (n + j - s.far) 0 = Y at hcell
                  have HY := Lib.hid hY
                  clear hY
                  generalize hk : L.length = k at hLn
                  have HK := Lib.hid hk
                  clear hk
                  have l3 : (0 : Int) ≤ (k : Int) - (s.far : Int) := by omega
                  have l4 : (k : Int) - (s.far : Int) < (k : Int) := by omega
                  have n1 : ((k : Int) - (s.far : Int)).toNat = n + j - s.far := by omega
                  have HO4 : Hid (OwnB wr w.heap.size (.slice (some ⟨g1, 0, none⟩) k cap1) L) := Lib.hid (by have h5 := HI3.out.1; rwa [HK.out] at h5)
                  go_wp2_with (at_builtin
                               refine wpList_append_bytes (base := w.heap.size) (xs := L) (ys := [Y]) rfl (.tmp 50) (.tmp 59) rfl rfl (HO4.out.alloc _) rfl (MemL.one (by simp [go_sem])) (by have h5 := HK.out; simp; omega) (by have h5 := HI3.out.2.2.2.2.2.2.2; simp; omega) ?_
                               intro v5 w5 own5 hgr5 hat5
                               have HX5 := Lib.hid (BoxS.grown (BoxS.alloc HI3.out.2.2 _) hgr5 HI3.out.2.1 (fun k hk => (HI3.out.1.lt k hk).1))
                               have HN5 := Lib.hid (own_ne hat5 HI3.out.2.1 (by have h5 := HI3.out.2.2.2.2.2.2.1; simp; omega))
                               have HO5 := Lib.hid own5
                               clear own5 hgr5 hat5)
                  refine ⟨⟨j + 1, L ++ [Y], by omega, rfl, Lib.hid ?_, Lib.hid (by have h5 := HK.out; simp; omega), Lib.hid ⟨HO5.out, HN5.out, HX5.out⟩⟩, ?_⟩
                  · have h5 := HR.out
                    rw [show s.len - j = (s.len - (j + 1)) + 1 by omega, rep, HLn.out, HY.out] at h5
                    exact h5
                  · show s.len - ((j : Int) + 1).toNat < s.len - (j : Int).toNat
                    omega
                · obtain rfl : j = s.len := by omega
                  have l2 : ¬ (s.len : Int) < (s.len : Int) := by omega
                  clear hj hjm
                  go_wp2
                  refine ⟨⟨i + 1, repeated D dl.length s.far s.len (out ++ s.lits), by omega, by rw [repeated_length]; simp; omega, rfl, Lib.hid ?_, Lib.hid ⟨?_, HI3.out.2.2.2.2.2.1⟩⟩, ?_⟩
                  · rw [HP.out, HSE.out, plain, if_neg (by simp; omega)]
                  · have h5 := HR.out
                    rw [Nat.sub_self, rep] at h5
                    have h6 := HI3.out.1
                    rw [h5] at h6
                    rw [← hD, rep_repeated' _ _ _ _ (by intro h7; exact ⟨hb4 h7, by simp; omega⟩), ← List.append_assoc]
                    exact h6
                  · show l.length - ((i : Int) + 1).toNat < l.length - (i : Int).toNat
                    omega)
      · have hp1 : ¬ (0 : Int) < (s.len : Int) := by omega
        by_cases hm : most < out.length + s.lits.length + s.len
        · have hm1 : (most : Int) < (n : Int) + (s.len : Int) - (dl.length : Int) := by omega
          go_wp2_with (
            at_builtin
            refine wpList_append_bytes (base := w.heap.size) (xs := dl ++ out) (ys := s.lits) rfl (.tmp 20) (.tmp 22) rfl rfl (HI.out.1.alloc _) rfl ((HL.out.below HI.out.2).below ((Below.refl _ _).alloc (Nat.le_refl _) _)) (by simp; omega) (by have := HI.out.2.size; simp; omega) ?_
            intro v2 w2 own2 hgr2 hat2
            have HX := Lib.hid (BoxS.grown (base := w.heap.size) (b := wr.heap.size) (x0 := .slice a s.lits.length c) (x1 := .int .i64 (s.far : Int)) (x2 := .int .i64 (s.len : Int)) ⟨by simp [go_sem], by simp [go_sem], by simp [go_sem], HI.out.2.alloc HI.out.2.size _, by simp, by have := HI.out.2.size; simp; omega⟩ hgr2 (by intro e; have := (HI.out.1.lt _ e).2; omega) (fun k hk => (HI.out.1.lt k hk).1))
            have HN := Lib.hid (own_ne (b := wr.heap.size) hat2 (by intro e; have := (HI.out.1.lt _ e).2; omega) (by simp))
            have HO := Lib.hid own2
            obtain ⟨ga, gc, hform0, hform⟩ := own2.slice
            rw [hn] at hform0
            subst hform0
            have HF := Lib.hid hform
            obtain ⟨d0, d1, d2, _⟩ := HX.out
            clear own2 hgr2 hat2 hform)
          (
            go_ret2
            refine ⟨HX.out.2.2.2.1, ?_⟩
            rw [HP.out, HSE.out, plain, if_pos (by simp; omega)]
            rfl)
        · have hm1 : ¬ (most : Int) < (n : Int) + (s.len : Int) - (dl.length : Int) := by omega
          go_wp2_with (
            at_builtin
            refine wpList_append_bytes (base := w.heap.size) (xs := dl ++ out) (ys := s.lits) rfl (.tmp 20) (.tmp 22) rfl rfl (HI.out.1.alloc _) rfl ((HL.out.below HI.out.2).below ((Below.refl _ _).alloc (Nat.le_refl _) _)) (by simp; omega) (by have := HI.out.2.size; simp; omega) ?_
            intro v2 w2 own2 hgr2 hat2
            have HX := Lib.hid (BoxS.grown (base := w.heap.size) (b := wr.heap.size) (x0 := .slice a s.lits.length c) (x1 := .int .i64 (s.far : Int)) (x2 := .int .i64 (s.len : Int)) ⟨by simp [go_sem], by simp [go_sem], by simp [go_sem], HI.out.2.alloc HI.out.2.size _, by simp, by have := HI.out.2.size; simp; omega⟩ hgr2 (by intro e; have := (HI.out.1.lt _ e).2; omega) (fun k hk => (HI.out.1.lt k hk).1))
            have HN := Lib.hid (own_ne (b := wr.heap.size) hat2 (by intro e; have := (HI.out.1.lt _ e).2; omega) (by simp))
            have HO := Lib.hid own2
            obtain ⟨ga, gc, hform0, hform⟩ := own2.slice
            rw [hn] at hform0
            subst hform0
            have HF := Lib.hid hform
            obtain ⟨d0, d1, d2, _⟩ := HX.out
            clear own2 hgr2 hat2 hform)
          (
            go_loopw [8, 48] (fun o p wx => ∃ (j : Nat) (L : List Int), j ≤ s.len ∧ p = .int .i64 (j : Int) ∧ Hid (rep s.far (s.len - j) L = rep s.far s.len (dl ++ out ++ s.lits)) ∧ Hid (L.length = n + j) ∧
                Hid (OwnB wx w.heap.size o L ∧ o.ownBlock ≠ some wr.heap.size ∧ BoxS w w.heap.size wr.heap.size (.slice a s.lits.length c) (.int .i64 (s.far : Int)) (.int .i64 (s.len : Int)) wx))
              (fun _ p _ => match p with | .int _ r => s.len - r.toNat | _ => 0)
            case atStart => exact ⟨0, _, by omega, rfl, Lib.hid rfl, Lib.hid (by omega), Lib.hid ⟨HO.out, HN.out, HX.out⟩⟩
            case round =>
              obtain ⟨j, L, hj, rfl, HR, HLn, HI3⟩ := hrel
              by_cases hjm : j < s.len
              · omega
              · obtain rfl : j = s.len := by omega
                have l2 : ¬ (s.len : Int) < (s.len : Int) := by omega
                clear hj hjm
                go_wp2
                refine ⟨⟨i + 1, repeated D dl.length s.far s.len (out ++ s.lits), by omega, by rw [repeated_length]; simp; omega, rfl, Lib.hid ?_, Lib.hid ⟨?_, HI3.out.2.2.2.2.2.1⟩⟩, ?_⟩
                · rw [HP.out, HSE.out, plain, if_neg (by simp; omega)]
                · have h5 := HR.out
                  rw [Nat.sub_self, rep] at h5
                  have h6 := HI3.out.1
                  rw [h5] at h6
                  rw [← hD, rep_repeated' _ _ _ _ (by intro h7; exact ⟨hb4 h7, by simp; omega⟩), ← List.append_assoc]
                  exact h6
                · show l.length - ((i : Int) + 1).toNat < l.length - (i : Int).toNat
                  omega)
    · obtain rfl : i = l.length := by omega
      have l1 : ¬ (l.length : Int) < (l.length : Int) := by omega
      have hP := HP.out
      rw [List.drop_length, plain] at hP
      have HP2 := Lib.hid hP
      have HI2 := HI
      clear hi hil hP
      obtain ⟨ga, gc, rfl, hform⟩ := HI.out.1.slice
      have hlen : (dl ++ out).length = dl.length + out.length := by simp
      have hM := OwnB.mem HI.out.1
      have HM := Lib.hid hM
      have hc1 := hM.1
      have hc2 := hM.2.1
      rw [hlen] at hc1
      have HC := Lib.hid hc1
      have HF := Lib.hid hform
      clear hM hform
      have l5 : (dl.length : Int) ≤ (dl.length : Int) + (out.length : Int) := by omega
      have l6 : (dl.length : Int) + (out.length : Int) ≤ (gc : Int) := by omega
      by_cases hgc : gc = dl.length
      · have h0 : out = [] := List.length_eq_zero_iff.1 (by omega)
        go_wp2
        go_ret2
        refine ⟨HI2.out.2, ?_⟩
        rw [HP2.out]
        exact ⟨ga, 0, by rw [h0]; rfl, by rw [h0]; exact ⟨Nat.le_refl _, by decide, .inl rfl⟩⟩
      · go_wp2
        go_ret2
        refine ⟨HI2.out.2, ?_⟩
        rw [HP2.out]
        exact ⟨_, _, rfl, HM.out.drop hgc⟩
end Go.Proofs.Ytkfkbbablgbfoaa
