/-
  A list of steps in memory, and the bytes that spec.Block writes of it.
-/
import Derived.Test.YtbadknelbdkpmaaDoorOwn
import Derived.Deep.CutRange
import Derived.Deep.RegionHeld3
namespace Go.Proofs.YtbadknelbdkpmaaDoor
open Go.RowKit
set_option linter.unusedVariables false
set_option maxHeartbeats 1000000
set_option maxRecDepth 20000
structure PStep where
  lits : List Int
  far : Nat
  len : Nat
def token (s : PStep) : Nat := min s.lits.length 15 * 16 + (if 0 < s.len then min (s.len - 4) 15 else 0)
def encStep (s : PStep) : List Int :=
  (token s : Int) :: (extra s.lits.length ++ (s.lits ++ (if 0 < s.len then ((s.far % 256 : Nat) : Int) :: ((s.far / 256 % 256 : Nat) : Int) :: extra (s.len - 4) else [])))
def written : List PStep → List Int
  | [] => []
  | s :: rest => encStep s ++ written rest
theorem wrap_u8 (x : Nat) : IntKind.u8.wrap (x : Int) = ((x % 256 : Nat) : Int) := by
  simp [IntKind.wrap, IntKind.bits, IntKind.signed]
/-- one step: three cells from place k of block g on -/
def StepCells (w : World) (g k : Nat) (s : PStep) : Prop :=
  ∃ a c, w.cell? ⟨g, k, none⟩ = some (.slice a s.lits.length c) ∧ w.cell? ⟨g, k + 1, none⟩ = some (.int .i64 (s.far : Int)) ∧ w.cell? ⟨g, k + 2, none⟩ = some (.int .i64 (s.len : Int)) ∧
    MemL w a c s.lits
def StepsMem (w : World) (g : Nat) (l : List PStep) : Prop := ∀ i s, l[i]? = some s → StepCells w g (i * 3) s
theorem cell_below {w w' : World} (hb : Below w.heap.size w w') {p : Addr} {v : Value} (h : w.cell? p = some v) : w'.cell? p = some v := by
  rw [hb.cell (p := p) (World.block_lt_of_cell? w _ h)]
  exact h
theorem StepCells.below {w w' : World} {g k : Nat} {s : PStep} (h : StepCells w g k s) (hb : Below w.heap.size w w') : StepCells w' g k s := by
  obtain ⟨a, c, c0, c1, c2, hM⟩ := h
  exact ⟨a, c, cell_below hb c0, cell_below hb c1, cell_below hb c2, hM.below hb⟩
theorem or_tok (x y : Nat) (hx : x ≤ 15) (hy : y ≤ 15) : bits BinOp.or IntKind.i64 ((x : Int) * 16) (y : Int) = ((x * 16 + y : Nat) : Int) := by
  have h : ∀ x y : Fin 16, bits BinOp.or IntKind.i64 ((x.val : Int) * 16) (y.val : Int) = ((x.val * 16 + y.val : Nat) : Int) := by decide +kernel
  exact h ⟨x, by omega⟩ ⟨y, by omega⟩
theorem extra_length (m : Nat) : (extra m).length ≤ m + 1 := by
  unfold extra
  split
  · simp
  · simp; omega
theorem encStep_length (s : PStep) : (encStep s).length ≤ 2 * s.lits.length + s.len + 6 := by
  have h1 := extra_length s.lits.length
  have h2 := extra_length (s.len - 4)
  unfold encStep
  split <;> simp <;> omega
theorem written_append (l1 l2 : List PStep) : written (l1 ++ l2) = written l1 ++ written l2 := by
  induction l1 with
  | nil => rfl
  | cons s l1 ih => simp [written, ih]
theorem written_take (l : List PStep) (i : Nat) (h : i < l.length) : written (l.take (i + 1)) = written (l.take i) ++ encStep l[i] := by
  rw [List.take_add_one, List.getElem?_eq_getElem h, written_append]
  simp [written]
theorem written_length (l : List PStep) (h : ∀ (i : Nat) (s : PStep), l[i]? = some s → s.lits.length ≤ 1000000 ∧ s.len ≤ 1000000 ∧ s.far < 65536) : ∀ i, i ≤ l.length → (written (l.take i)).length ≤ i * 3000006
  | 0, _ => by simp [written]
  | i + 1, hi => by
    have ih := written_length l h i (by omega)
    have h1 := encStep_length l[i]
    obtain ⟨h2, h3, _⟩ := h i l[i] (by simp)
    rw [written_take l i (by omega), List.length_append]
    omega
theorem block14 (g cap : Nat) (l : List PStep) (w : World) (h : StepsMem w g l) (hl : l.length ≤ cap) (h2 : l.length ≤ 1000) (hl3 : ∀ (i : Nat) (s : PStep), l[i]? = some s → s.lits.length ≤ 1000000 ∧ s.len ≤ 1000000 ∧ s.far < 65536) :
    Calls Tryd.prog 7 #[.slice (some ⟨g, 0, none⟩) l.length cap] w (Owned w (written l)) := by
  have H := Lib.hid h
  clear h
  go_enter Tryd.func7, Tryd.ntmps7
  go_wp2
  go_loopw [3, 12] (fun o p wr => ∃ i : Nat, i ≤ l.length ∧ p = .int .i64 (i : Int) ∧
      Hid (OwnB wr w.heap.size o (written (l.take i)) ∧ Below w.heap.size w wr))
    (fun _ p _ => match p with | .int _ r => l.length - r.toNat | _ => 0)
  case atStart => exact ⟨0, by omega, rfl, World.ownsRow_made w #[] 0 (Nat.le_refl _) (Nat.zero_le _) rfl, (Below.refl _ _).alloc (Nat.le_refl _) _⟩
  case round =>
    obtain ⟨i, hi, rfl, HI⟩ := hrel
    by_cases hil : i < l.length
    · have l1 : (i : Int) < (l.length : Int) := by omega
      obtain ⟨a, c, c0', c1', c2', hM⟩ := H.out i l[i] (by simp [hil])
      have c0 := cell_below HI.out.2 c0'
      have c1 := cell_below HI.out.2 c1'
      have c2 := cell_below HI.out.2 c2'
      clear c0' c1' c2'
      obtain ⟨hb1, hb2, hb3⟩ := hl3 i l[i] (by simp [hil])
      generalize hse : l[i] = s at c0 c1 c2 hM hb1 hb2 hb3
      have HSE : Hid (written (l.take (i + 1)) = written (l.take i) ++ encStep s) := Lib.hid (by rw [written_take l i hil, hse])
      clear hse
      have HL := Lib.hid hM
      clear hM
      go_upto_if 28 with fail
      have d0 : (wr.alloc (Obj.cells #[Value.slice a s.lits.length c, Value.int IntKind.i64 ↑s.far, Value.int IntKind.i64 ↑s.len] 31)).cell? ⟨wr.heap.size, 0, none⟩ = some (.slice a s.lits.length c) := by simp [go_sem]
      have d1 : (wr.alloc (Obj.cells #[Value.slice a s.lits.length c, Value.int IntKind.i64 ↑s.far, Value.int IntKind.i64 ↑s.len] 31)).cell? ⟨wr.heap.size, 1, none⟩ = some (.int .i64 (s.far : Int)) := by simp [go_sem]
      have d2 : (wr.alloc (Obj.cells #[Value.slice a s.lits.length c, Value.int IntKind.i64 ↑s.far, Value.int IntKind.i64 ↑s.len] 31)).cell? ⟨wr.heap.size, 2, none⟩ = some (.int .i64 (s.len : Int)) := by simp [go_sem]
      have HB : Hid (Below wr.heap.size wr (wr.alloc (Obj.cells #[Value.slice a s.lits.length c, Value.int IntKind.i64 ↑s.far, Value.int IntKind.i64 ↑s.len] 31))) := Lib.hid ((Below.refl _ _).alloc (Nat.le_refl _) _)
      have HS : Hid (wr.heap.size < (wr.alloc (Obj.cells #[Value.slice a s.lits.length c, Value.int IntKind.i64 ↑s.far, Value.int IntKind.i64 ↑s.len] 31)).heap.size) := Lib.hid (by simp)
      generalize wr.alloc (Obj.cells #[Value.slice a s.lits.length c, Value.int IntKind.i64 ↑s.far, Value.int IntKind.i64 ↑s.len] 31) = W at d0 d1 d2 HB HS ⊢
      generalize hb : wr.heap.size = b at d0 d1 d2 HS ⊢
      have HBE := Lib.hid hb
      clear hb
      go_cut [6, 7] from 16 to 60 (fun s6 s7 wx => s6 = .int .i64 (s.lits.length : Int) ∧ s7 = .int .i64 ((s.len - 4 : Nat) : Int) ∧ ∃ m, wx = W.drewN m)
      case first =>
        go_quiet (fail)
        have e : (if (4 : Int) < (s.len : Int) then (s.len : Int) - 4 else 0) = ((s.len - 4 : Nat) : Int) := by split <;> omega
        rw [e]
        go_wp2
        go_meet
        case rel => exact ⟨rfl, rfl, _, rfl⟩
      case rest =>
        obtain ⟨rfl, rfl, m0, rfl⟩ := hcut
        go_upto_if 28 with fail
        have e : (if (15 : Int) < (s.lits.length : Int) then (15 : Int) else (s.lits.length : Int)) = ((min s.lits.length 15 : Nat) : Int) := by split <;> omega
        rw [e]
        have ht : token s = min s.lits.length 15 * 16 + (if 0 < s.len then min (s.len - 4) 15 else 0) := rfl
        have HT := Lib.hid ht
        clear ht
        have hq : min s.lits.length 15 ≤ 15 := Nat.min_le_right _ _
        generalize min s.lits.length 15 = q at HT hq ⊢
        clear e
        go_cut [8] from 26 to 32 (fun s8 wx => s8 = .int .i64 (token s : Int) ∧ wx = W.drewN m0)
        case first =>
          by_cases hp : 0 < s.len
          · have hp1 : (0 : Int) < (s.len : Int) := by omega
            by_cases h15 : 15 < s.len - 4
            · have h151 : (15 : Int) < ((s.len - 4 : Nat) : Int) := by omega
              go_wp2
              go_meet
              case rel => exact ⟨by rw [HT.out, if_pos hp, show min (s.len - 4) 15 = 15 by omega, ← or_tok q 15 hq (by omega)]; rfl, rfl⟩
            · have h151 : ¬ (15 : Int) < ((s.len - 4 : Nat) : Int) := by omega
              go_wp2
              go_meet
              case rel => exact ⟨by rw [HT.out, if_pos hp, show min (s.len - 4) 15 = s.len - 4 by omega, ← or_tok q (s.len - 4) hq (by omega)], rfl⟩
          · have hp1 : ¬ (0 : Int) < (s.len : Int) := by omega
            go_wp2
            go_meet
            case rel => exact ⟨by rw [HT.out, if_neg hp]; simp, rfl⟩
        case rest =>
          obtain ⟨rfl, rfl⟩ := hcut
          have ht8 : token s ≤ 255 := by rw [HT.out]; split <;> omega
          clear HT hq
          have hwr : IntKind.u8.wrap (token s : Int) = (token s : Int) := by rw [wrap_u8, Nat.mod_eq_of_lt (by omega)]
          go_upto_if 46 with fail
          have hX : BoxS w w.heap.size b (.slice a s.lits.length c) (.int .i64 (s.far : Int)) (.int .i64 (s.len : Int)) (W.drewN m0) :=
            ⟨d0, d1, d2, below_drewN (HI.out.2.trans (HB.out.mono HI.out.2.size)) _, HS.out, Nat.le_trans HI.out.2.size HB.out.size⟩
          have HO : Hid (OwnB (W.drewN m0) w.heap.size u3 (written (l.take i))) := Lib.hid (HI.out.1.below (below_drewN HB.out _))
          have hne : Hid (u3.ownBlock ≠ some b) := Lib.hid (by intro e; have h1 := (HI.out.1.lt _ e).2; have h2 := HBE.out; omega)
          have hlo : Hid (∀ k, u3.ownBlock = some k → w.heap.size ≤ k) := Lib.hid (fun k hk => (HI.out.1.lt k hk).1)
          have hwl := written_length l hl3 i hi
          have hxl := extra_length s.lits.length
          clear HI HB HS HBE d0 d1 d2 c0 c1 c2 hl3
          generalize W.drewN m0 = X at hX HO ⊢
          clear W
          go_cut [3] from 33 to 43 (fun s3 wx => OwnB wx w.heap.size s3 (written (l.take i) ++ [(token s : Int)] ++ extra s.lits.length ++ s.lits) ∧ s3.ownBlock ≠ some b ∧
            BoxS w w.heap.size b (.slice a s.lits.length c) (.int .i64 (s.far : Int)) (.int .i64 (s.len : Int)) wx)
          case first =>
            go_region_held3 (fun w' => w'.cell? ⟨b, 0, none⟩ = some (.slice a s.lits.length c) ∧ w'.cell? ⟨b, 1, none⟩ = some (.int .i64 (s.far : Int)) ∧ w'.cell? ⟨b, 2, none⟩ = some (.int .i64 (s.len : Int)) ∧ Below w.heap.size w w' ∧ b < w'.heap.size ∧ w.heap.size ≤ w'.heap.size)
              (first | assumption | exact hX.drew | exact hbox.out | exact (hX.alloc _).drew)
              (first
                | (refine step_append_bytes (base := w.heap.size) (v := u3) (xs := written (l.take i)) (ys := [(token s : Int)]) rfl (.tmp 33) (.tmp 36) rfl rfl (HO.out.alloc _).drew rfl (MemL.one (by simp [go_sem])) (by simp; omega) (by have h1 := hX.2.2.2.2.2; simp; omega) ?_
                   intro v1 w1 own1 hgr1 hat1
                   have hbox := Lib.hid (BoxS.grown (hX.alloc _).drew hgr1 hne.out hlo.out)
                   have HN1 := Lib.hid (own_ne hat1 hne.out (by have h1 := hX.2.2.2.2.1; simp; omega))
                   have HO1 := Lib.hid own1
                   clear own1 hgr1 hat1)
                | (go_at_call 14
                   refine Calls.mono (size21 s.lits.length (by omega) _) ?_
                   rintro e w2 ⟨a2, k2, rfl, hm2, ho2, hB2⟩
                   have hbox := Lib.hid (BoxS.below hbox.out hB2)
                   have HO2 := Lib.hid (HO1.out.below hB2)
                   have HM2 := Lib.hid hm2
                   clear hm2 ho2 hB2)
                | (refine step_append_bytes (base := w.heap.size) (xs := written (l.take i) ++ [(token s : Int)]) (ys := extra s.lits.length) rfl (.tmp 37) (.tmp 39) rfl rfl HO2.out rfl HM2.out (by simp; omega) hbox.out.2.2.2.2.2 ?_
                   intro v3 w3 own3 hgr3 hat3
                   have hbox3 := Lib.hid (BoxS.grown hbox.out hgr3 HN1.out (fun k hk => (HO2.out.lt k hk).1))
                   have HN3 := Lib.hid (own_ne hat3 HN1.out hbox.out.2.2.2.2.1)
                   have HO3 := Lib.hid own3
                   clear own3 hgr3 hat3 hbox
                   have hbox := hbox3)
                | (refine step_append_bytes (base := w.heap.size) (xs := written (l.take i) ++ [(token s : Int)] ++ extra s.lits.length) (ys := s.lits) rfl (.tmp 40) (.tmp 42) rfl rfl HO3.out rfl (HL.out.below hbox.out.2.2.2.1) (by simp; omega) hbox.out.2.2.2.2.2 ?_
                   intro v4 w4 own4 hgr4 hat4
                   have hbox4 := Lib.hid (BoxS.grown hbox.out hgr4 HN3.out (fun k hk => (HO3.out.lt k hk).1))
                   have HN4 := Lib.hid (own_ne hat4 HN3.out hbox.out.2.2.2.2.1)
                   have HO4 := Lib.hid own4
                   clear own4 hgr4 hat4 hbox
                   have hbox := hbox4))
            go_wp2
            go_meet
            case rel => exact ⟨HO4.out, HN4.out, hbox.out⟩
          case rest =>
            obtain ⟨hown, hne2, hbx⟩ := hcut
            have HX := Lib.hid hbx
            obtain ⟨d0, d1, d2, hB, hbl, hbs⟩ := hbx
            have HO := Lib.hid hown
            have HN := Lib.hid hne2
            have HB := Lib.hid hB
            have hll := extra_length (s.len - 4)
            clear hX hown hne2 hne hlo hB
            by_cases hp : 0 < s.len
            · have hp1 : (0 : Int) < (s.len : Int) := by omega
              go_wp2_with (first
                | (at_builtin
                   refine wpList_append_bytes (base := w.heap.size) (xs := written (l.take i) ++ [(token s : Int)] ++ extra s.lits.length ++ s.lits) (ys := [(s.far : Int) % 256, (s.far : Int) / 256]) rfl (.tmp 47) (.tmp 55) rfl rfl (HO.out.alloc _) rfl (MemL.two (by simp [go_sem]) (by simp [go_sem])) (by simp; omega) (by simp; omega) ?_
                   intro v1 w1 own1 hgr1 hat1
                   have HX1 := Lib.hid (BoxS.grown (HX.out.alloc _) hgr1 HN.out (fun k hk => (HO.out.lt k hk).1))
                   have HO1 := Lib.hid own1
                   clear own1 hgr1 hat1)
                | (go_at_call 14
                   refine Calls.mono (size21 (s.len - 4) (by omega) _) ?_
                   rintro e w2 ⟨a2, k2, rfl, hm2, ho2, hB2⟩
                   have HX2 := Lib.hid (BoxS.below HX1.out hB2)
                   have HO2 := Lib.hid (HO1.out.below hB2)
                   have HM2 := Lib.hid hm2
                   clear hm2 ho2 hB2)
                | (at_builtin
                   refine wpList_append_bytes (base := w.heap.size) (xs := written (l.take i) ++ [(token s : Int)] ++ extra s.lits.length ++ s.lits ++ [(s.far : Int) % 256, (s.far : Int) / 256]) (ys := extra (s.len - 4)) rfl (.tmp 56) (.tmp 58) rfl rfl HO2.out rfl HM2.out (by simp; omega) HX2.out.2.2.2.2.2 ?_
                   intro v3 w3 own3 hgr3 hat3
                   have hown1 := HO1.out
                   have HB3 := Lib.hid (HX2.out.2.2.2.1.grown hgr3 HX2.out.2.2.2.2.2 (fun k hk => (HO2.out.lt k hk).1))
                   have HO3 := Lib.hid own3
                   clear own3 hgr3 hat3))
              refine ⟨⟨i + 1, by omega, rfl, Lib.hid ⟨?_, HB3.out⟩⟩, ?_⟩
              · have h3 := HO3.out
                rw [HSE.out, encStep, if_pos hp]
                rw [show (s.far : Int) % 256 = ((s.far % 256 : Nat) : Int) by omega, show (s.far : Int) / 256 = ((s.far / 256 % 256 : Nat) : Int) by omega] at h3
                simpa using h3
              · show l.length - ((i : Int) + 1).toNat < l.length - (i : Int).toNat
                omega
            · have hp1 : ¬ (0 : Int) < (s.len : Int) := by omega
              go_wp2
              refine ⟨⟨i + 1, by omega, rfl, Lib.hid ⟨?_, HB.out⟩⟩, ?_⟩
              · have h3 := HO.out
                rw [HSE.out, encStep, if_neg hp]
                simpa using h3
              · show l.length - ((i : Int) + 1).toNat < l.length - (i : Int).toNat
                omega
    · obtain rfl : i = l.length := by omega
      have l1 : ¬ (l.length : Int) < (l.length : Int) := by omega
      have HI2 := HI
      clear hi hil
      go_wp2
      go_ret
      have h1 := HI2.out.1
      rw [List.take_length] at h1
      exact owned_of h1 HI2.out.2
theorem extra_range (k : Nat) : ∀ u ∈ extra k, 0 ≤ u ∧ u ≤ 255 := by
  intro u hu
  unfold extra at hu
  split at hu
  · cases hu
  · rcases List.mem_append.1 hu with hu | hu
    · rw [(List.mem_replicate.1 hu).2]
      omega
    · rw [List.mem_singleton.1 hu]
      omega
theorem encStep_range (s : PStep) (h : ∀ u ∈ s.lits, 0 ≤ u ∧ u ≤ 255) : ∀ u ∈ encStep s, 0 ≤ u ∧ u ≤ 255 := by
  intro u hu
  unfold encStep at hu
  rcases List.mem_cons.1 hu with rfl | hu
  · have : token s ≤ 255 := by unfold token; split <;> omega
    omega
  · rcases List.mem_append.1 hu with hu | hu
    · exact extra_range _ u hu
    · rcases List.mem_append.1 hu with hu | hu
      · exact h u hu
      · split at hu
        · rcases List.mem_cons.1 hu with rfl | hu
          · omega
          · rcases List.mem_cons.1 hu with rfl | hu
            · omega
            · exact extra_range _ u hu
        · cases hu
theorem written_range : ∀ (l : List PStep), (∀ s ∈ l, ∀ u ∈ s.lits, 0 ≤ u ∧ u ≤ 255) → ∀ u ∈ written l, 0 ≤ u ∧ u ≤ 255
  | [], _, u, hu => by cases hu
  | s :: rest, h, u, hu => by
    rw [written] at hu
    rcases List.mem_append.1 hu with hu | hu
    · exact encStep_range s (h s (List.mem_cons_self ..)) u hu
    · exact written_range rest (fun t ht => h t (List.mem_cons_of_mem _ ht)) u hu
theorem getD_range {xs : List Int} (h : ∀ u ∈ xs, 0 ≤ u ∧ u ≤ 255) (i : Nat) : 0 ≤ xs.getD i 0 ∧ xs.getD i 0 ≤ 255 := by
  rw [List.getD_eq_getElem?_getD]
  cases hi : xs[i]? with
  | none => simp
  | some u => exact h u (List.mem_of_getElem? hi)
end Go.Proofs.YtbadknelbdkpmaaDoor
