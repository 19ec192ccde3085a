/-
  laws.stepsOf: the steps of numbers.
-/
import Derived.Test.YtkfkbbablgbfoaaRowS
namespace Go.Proofs.Ytkfkbbablgbfoaa
open Go.RowKit
set_option linter.unusedVariables false
set_option maxHeartbeats 1000000
set_option maxRecDepth 20000
/-- the state of stepsOf's round: the closure's 'at' in block ba, the data's slice in block bd, the row of steps -/
structure Stp (w0 w : World) (ba bd x m : Nat) (da : Option Addr) (dc : Nat) (G : Nat → Prop) (v : Value) (l : List PStep) : Prop where
  row : RowS w w0.heap.size G v l
  at_ : w.cell? ⟨ba, 0, none⟩ = some (.int .i64 (x : Int))
  free : w.frozen? ⟨ba, 0, none⟩ = false
  data : w.cell? ⟨bd, 0, none⟩ = some (.slice da m dc)
  below : Below w0.heap.size w0 w
  na : v.ownBlock ≠ some ba
  nd : v.ownBlock ≠ some bd
  lo : w0.heap.size ≤ ba
  ne : bd ≠ ba
  hG : ∀ k, G k → ba < k
theorem Stp.take {w0 w : World} {ba bd x m : Nat} {da : Option Addr} {dc : Nat} {G : Nat → Prop} {v : Value} {l : List PStep} {Z : Nat → Int} (h : Stp w0 w ba bd x m da dc G v l) (hZ : Mem w0 .u8 da m dc Z) (hZ2 : ∀ i, 0 ≤ Z i ∧ Z i ≤ 255) :
    TakeAt w ba bd x m Z := by
  refine ⟨h.at_, h.free, ⟨da, dc, h.data, hZ.below h.below, fun y hy hm => ?_⟩, h.ne, hZ2⟩
  obtain ⟨_, _, h3 | ⟨b, off, rfl, hc⟩⟩ := hZ
  · omega
  · cases hy
    have h4 := World.block_lt_of_cell? w0 _ (hc 0 hm)
    have h5 := h.lo
    have h6 := h.below.size
    simp only at h4
    exact ⟨by simp only; omega, by simp only; omega⟩
theorem Stp.grown {w0 w w2 : World} {ba bd x m : Nat} {da : Option Addr} {dc : Nat} {G : Nat → Prop} {v : Value} {l : List PStep} (h : Stp w0 w ba bd x m da dc G v l) {row : Option Nat} (hg : w.grownBy w2 row)
    (h1 : row ≠ some ba) (h2 : row ≠ some bd) (h3 : v.ownBlock = none ∨ v.ownBlock ≠ row) (h4 : ∀ k, row = some k → w0.heap.size ≤ k ∧ ¬ G k) : Stp w0 w2 ba bd x m da dc G v l :=
  ⟨h.row.grown hg h3 (fun k hk _ _ e => (h4 k e.symm).2 hk), grown_cell hg h.at_ h1.symm, frozen_grown hg (World.block_lt_of_cell? w _ h.at_) h1.symm h.free, grown_cell hg h.data h2.symm,
    h.below.grown hg h.below.size (fun k hk => (h4 k hk).1), h.na, h.nd, h.lo, h.ne, h.hG⟩
theorem Stp.alloc {w0 w : World} {ba bd x m : Nat} {da : Option Addr} {dc : Nat} {G : Nat → Prop} {v : Value} {l : List PStep} (h : Stp w0 w ba bd x m da dc G v l) (o : Obj) : Stp w0 (w.alloc o) ba bd x m da dc G v l :=
  h.grown (World.grownBy_alloc w o none) (by simp) (by simp) (by cases v.ownBlock <;> simp) (by simp)
theorem Stp.mono {w0 w : World} {ba bd x m : Nat} {da : Option Addr} {dc : Nat} {G G' : Nat → Prop} {v : Value} {l : List PStep} (h : Stp w0 w ba bd x m da dc G v l) (hG : ∀ k, G k → k < w.heap.size → G' k) (hG2 : ∀ k, G' k → ba < k) : Stp w0 w ba bd x m da dc G' v l :=
  ⟨h.row.mono hG, h.at_, h.free, h.data, h.below, h.na, h.nd, h.lo, h.ne, hG2⟩
theorem Stp.after {w0 w w2 : World} {ba bd x y m : Nat} {da : Option Addr} {dc : Nat} {G : Nat → Prop} {v : Value} {l : List PStep} (h : Stp w0 w ba bd x m da dc G v l) (hg : w.grownBy w2 (some ba)) (ha : w2.cell? ⟨ba, 0, none⟩ = some (.int .i64 (y : Int))) (hf : w2.frozen? ⟨ba, 0, none⟩ = false) :
    Stp w0 w2 ba bd y m da dc G v l :=
  ⟨h.row.grown hg (.inr h.na) (fun k hk _ _ e => by have h1 := Option.some.inj e; have h2 := h.hG k hk; omega), ha, hf, grown_cell hg h.data (by intro e; exact h.ne (Option.some.inj e)), h.below.grown hg h.below.size (by intro k hk; cases hk; exact h.lo), h.na, h.nd, h.lo, h.ne, h.hG⟩
theorem cnt_le (v : Nat) : cnt v ≤ 399 := by unfold cnt; split <;> omega
theorem litn_le (v n : Nat) : litn v n ≤ 400 := by
  have := cnt_le v
  unfold litn
  split <;> omega
theorem mlen_le (v : Nat) : mlen v ≤ 703 := by unfold mlen; split <;> omega
theorem Stp.append {w0 w w2 : World} {ba bd x m : Nat} {da : Option Addr} {dc : Nat} {G : Nat → Prop} {v v' : Value} {l l' : List PStep} (h : Stp w0 w ba bd x m da dc G v l) (hr : RowS w2 w0.heap.size G v' l') (hg : w.grownBy w2 v.ownBlock)
    (hat : v'.ownBlock = v.ownBlock ∨ v'.ownBlock = some w.heap.size) : Stp w0 w2 ba bd x m da dc G v' l' :=
  ⟨hr, grown_cell hg h.at_ (fun e => h.na e.symm), frozen_grown hg (World.block_lt_of_cell? w _ h.at_) (fun e => h.na e.symm) h.free, grown_cell hg h.data (fun e => h.nd e.symm),
    h.below.grown hg h.below.size (fun k hk => (h.row.lt k hk).1), own_ne hat h.na (World.block_lt_of_cell? w _ h.at_), own_ne hat h.nd (World.block_lt_of_cell? w _ h.data), h.lo, h.ne, h.hG⟩
/-- the steps that stepsOf makes of nl numbers -/
def made (Z : Nat → Int) (m : Nat) (N : Nat → Int) (nl ahead : Nat) : List PStep := mk (streamAt Z m) (12 + nl % 9) ((List.range (min nl 20)).map fun i => (N i).toNat) ahead 0
/-- steps of the call's own -/
def Stepped (w : World) (l : List PStep) (e : Ending) (w' : World) : Prop := ∃ g cap, e = .returned (.slice (some ⟨g, 0, none⟩) l.length cap) ∧ l.length ≤ cap ∧ StepsMem w' g l ∧ Below w.heap.size w w'
theorem make12 (na da : Option Addr) (nl nc m dc ahead : Nat) (N Z : Nat → Int) (w : World) (hN : Mem w .u32 na nl nc N) (hN2 : ∀ i, 0 ≤ N i ∧ N i ≤ 4294967295) (hZ : Mem w .u8 da m dc Z) (hZ2 : ∀ i, 0 ≤ Z i ∧ Z i ≤ 255) (h1 : nl ≤ 100) (h2 : m ≤ 1000) (h3 : ahead ≤ 1000) :
    Calls Try.prog 12 #[.slice na nl nc, .slice da m dc, .int .i64 (ahead : Int)] w (Stepped w (made Z m N nl ahead)) := by
  unfold made
  have HN := Lib.hid hN
  have HZ := Lib.hid hZ
  have hn1 := hN.1
  have hn2 := hN.2.1
  clear hN hZ
  obtain ⟨L, hL⟩ : ∃ L, L = min nl 20 := ⟨_, rfl⟩
  have e : (if (20 : Int) < (nl : Int) then (20 : Int) else (nl : Int)) = (L : Int) := by split <;> omega
  have l1 : (0 : Int) ≤ (L : Int) := by omega
  have l2 : (L : Int) ≤ (nc : Int) := by omega
  have l0 : L ≤ nl ∧ L ≤ 20 := by omega
  have HLE := Lib.hid hL
  clear hL
  go_enter Try.func12, Try.ntmps12
  go_upto_if 25 with fail
  have hst : Stp w (((w.alloc (Obj.cells #[Value.slice da m dc] 22)).alloc (Obj.cells #[] 28)).alloc (Obj.cells #[Value.int IntKind.i64 0] 3)) (w.heap.size + 1 + 1) w.heap.size 0 m da dc (fun k => w.heap.size + 1 + 1 < k) (.slice (some ⟨w.heap.size + 1, 0, none⟩) 0 0) [] := by
    refine ⟨?_, by simp [go_sem], by simp [go_sem], ?_, ?_, by simp [Value.ownBlock], by simp [Value.ownBlock], by omega, by omega, fun k hk => hk⟩
    · have h5 := RowS.nil (w := w.alloc (Obj.cells #[Value.slice da m dc] 22)) _ rfl w.heap.size (fun k => w.heap.size + 1 + 1 < k) (by simp)
      have h6 := RowS.grown h5 (World.grownBy_alloc _ (Obj.cells #[Value.int IntKind.i64 0] 3) none) (by simp [Value.ownBlock]) (by simp)
      simpa using h6
    · rw [World.cell?_alloc_old _ _ _ (by simp; omega), World.cell?_alloc_old _ _ _ (by simp)]
      simp [go_sem]
    · exact (((Below.refl _ _).alloc (Nat.le_refl _) _).alloc (by simp) _).alloc (by simp; omega) _
  have hba : w.heap.size ≠ w.heap.size + 1 + 1 := by omega
  have HST := Lib.hid hst
  clear hst
  generalize (((w.alloc (Obj.cells #[Value.slice da m dc] 22)).alloc (Obj.cells #[] 28)).alloc (Obj.cells #[Value.int IntKind.i64 0] 3)) = W at HST ⊢
  generalize w.heap.size + 1 + 1 = ba at hba HST ⊢
  generalize w.heap.size + 1 = b1 at HST ⊢
  obtain ⟨bd, hbd⟩ : ∃ bd, w.heap.size = bd := ⟨_, rfl⟩
  rw [hbd] at hba HST ⊢
  have HBD := Lib.hid hbd
  clear hbd
  obtain ⟨vs, hvs⟩ : ∃ vs, vs = (List.range L).map fun i => (N i).toNat := ⟨_, rfl⟩
  have HVS := Lib.hid hvs
  obtain ⟨q, hq⟩ : ∃ q, q = 12 + nl % 9 := ⟨_, rfl⟩
  go_loopw [7, 8, 24] (fun o p y wr => ∃ (i n x : Nat) (l : List PStep), i ≤ L ∧ n ≤ 1000 + i * 1200 ∧ x ≤ i * 401 ∧ l.length = i ∧ p = .int .i64 (n : Int) ∧ y = .int .i64 (i : Int) ∧
      Hid (mk (streamAt Z m) q vs ahead 0 = l ++ mk (streamAt Z m) q (vs.drop i) n x) ∧ Hid (Stp w wr ba bd x m da dc (fun k => ba < k) o l))
    (fun _ _ p _ => match p with | .int _ r => L - r.toNat | _ => 0)
  case atStart => exact ⟨0, ahead, 0, [], by omega, by omega, by omega, rfl, rfl, rfl, Lib.hid rfl, HST⟩
  case round =>
    obtain ⟨i, n, x, l, hi, hn, hx, hl, rfl, rfl, HM, HS⟩ := hrel
    by_cases hil : i < L
    · have hiL : (i : Int) < (L : Int) := by omega
      obtain ⟨_, _, hN3⟩ := HN.out
      obtain ⟨b, off, rfl, hc⟩ : ∃ b off, na = some ⟨b, off, none⟩ ∧ ∀ i, i < nl → w.cell? ⟨b, off + i, none⟩ = some (.int .u32 (N i)) := by
        rcases hN3 with h5 | h5
        · omega
        · exact h5
      have c0 := cell_below HS.out.below (hc i (by omega))
      have hr := hN2 i
      have hv : vs[i]? = some (N i).toNat := by rw [hvs]; simp [hil]
      obtain ⟨v, hv2⟩ : ∃ v : Nat, N i = (v : Int) := ⟨(N i).toNat, by omega⟩
      have hvb : v ≤ 4294967295 := by omega
      rw [hv2] at c0 hv
      have HD : Hid (vs.drop i = v :: vs.drop (i + 1)) := Lib.hid (by
        obtain ⟨h5, h6⟩ := List.getElem?_eq_some_iff.1 hv
        rw [List.drop_eq_getElem_cons h5, h6]
        simp)
      clear hc hr hv hv2 hN3
      go_upto_if 34 with fail
      go_cut [13] from 28 to 83 (fun s13 wx => s13 = .int .i64 (cnt v : Int) ∧ wx = wr)
      case first =>
        by_cases hk : v / 16 % 16 = 0
        · have hk1 : ((v : Int) / 16 % 16 == 0) = true := by simp; omega
          go_wp2
          go_meet
          case rel => exact ⟨by simp [cnt, hk], rfl⟩
        · have hk1 : ((v : Int) / 16 % 16 == 0) = false := by simp; omega
          go_wp2
          go_meet
          case rel => exact ⟨by simp [cnt, hk], rfl⟩
      case rest =>
        obtain ⟨rfl, rfl⟩ := hcut
        have hcn : cnt v ≤ 399 := by unfold cnt; split <;> omega
        obtain ⟨k, hk⟩ : ∃ k, k = cnt v := ⟨_, rfl⟩
        rw [← hk] at hcn ⊢
        have HK := Lib.hid hk
        clear hk
        go_upto_if 47 with (
          go_at_call 19
          refine Calls.mono (take19 k x ba bd m Z wc (HS.out.take HZ.out hZ2) (by omega) (by omega) (by omega)) ?_
          rintro e w2 ⟨⟨a1, k1, rfl, hm1, ho1⟩, hat1, hfr1, hg1⟩
          have HS2 := Lib.hid (HS.out.after hg1 hat1 hfr1)
          have HM1 := Lib.hid hm1
          have HO1 := Lib.hid ho1
          have HG1 := Lib.hid hg1
          clear hm1 ho1 hat1 hfr1 hg1)
        have HS3 : Hid (Stp w (w2.alloc (Obj.cells #[Value.slice a1 k k1, Value.int IntKind.i64 0, Value.int IntKind.i64 0] 28)) ba bd (x + k) m da dc (fun j => ba < j ∧ j ≠ w2.heap.size) u7 l) :=
          Lib.hid ((HS2.out.mono (fun j h5 h6 => ⟨h5, by omega⟩) (fun j h5 => h5.1)).alloc _)
        have HB3 := Lib.hid (SB.new w2 (.slice a1 k k1) (.int .i64 0) (.int .i64 0))
        have HM3 : Hid (MemL (w2.alloc (Obj.cells #[Value.slice a1 k k1, Value.int IntKind.i64 0, Value.int IntKind.i64 0] 28)) a1 k1 (slit (streamAt Z m) x k)) := Lib.hid ((memL_slit HM1.out).below ((Below.refl _ _).alloc (Nat.le_refl _) _))
        have hbal := World.block_lt_of_cell? wc _ HS.out.at_
        have hbdl := World.block_lt_of_cell? wc _ HS.out.data
        have hgs := HG1.out.size
        have hws := HS.out.below.size
        have hol := HS.out.row.lt
        simp only at hbal hbdl
        have hnb : Hid (u7.ownBlock ≠ some w2.heap.size ∧ w2.heap.size ≠ ba ∧ w2.heap.size ≠ bd ∧ w.heap.size ≤ w2.heap.size) :=
          Lib.hid ⟨fun h5 => by have h6 := hol _ h5; omega, by omega, by omega, by omega⟩
        have hfr : Hid (0 < k → ∀ p, a1 = some p → some p.block ≠ u7.ownBlock ∧ ba < p.block ∧ p.block ≠ w2.heap.size) :=
          Lib.hid fun h5 p hp => by
            have h6 := HO1.out p hp
            have h7 := memL_lt (memL_slit HM1.out) (by rw [slit_length]; exact h5) p hp
            exact ⟨fun h8 => by have h9 := hol _ h8.symm; omega, by omega, by omega⟩
        clear hbal hbdl hgs hws hol
        generalize (w2.alloc (Obj.cells #[Value.slice a1 k k1, Value.int IntKind.i64 0, Value.int IntKind.i64 0] 28)) = w3 at HS3 HB3 HM3 ⊢
        generalize w2.heap.size = bs at HS3 HB3 hnb hfr ⊢
        clear HS2 HM1 HO1 HG1
        go_cut [8, 13, 14] from 28 to 83 (fun s8 s13 s14 wx => s8 = .int .i64 ((n + litn v n : Nat) : Int) ∧ ∃ bs a c, s14 = .pointer (some ⟨bs, 0, none⟩) ∧ Hid (SB wx bs (.slice a (litn v n) c) (.int .i64 0) (.int .i64 0)) ∧
          Hid (Stp w wx ba bd (x + litn v n) m da dc (fun j => ba < j ∧ j ≠ bs) u7 l) ∧ Hid (MemL wx a c (slit (streamAt Z m) x (litn v n))) ∧ Hid (u7.ownBlock ≠ some bs ∧ bs ≠ ba ∧ bs ≠ bd ∧ w.heap.size ≤ bs) ∧
          Hid (0 < litn v n → ∀ p, a = some p → some p.block ≠ u7.ownBlock ∧ ba < p.block ∧ p.block ≠ bs))
        case first =>
          by_cases hz : n + k = 0
          · have hz1 : ((n : Int) + (k : Int) == 0) = true := by simp; omega
            have hk0 : k = 0 := by omega
            have hn0 : n = 0 := by omega
            have hl1 : litn v n = 1 := by unfold litn; rw [← HK.out, if_pos hz]
            go_wp2_with (
              go_at_call 19
              refine Calls.mono (take19 1 (x + k) ba bd m Z w3 (HS3.out.take HZ.out hZ2) (by omega) (by omega) (by omega)) ?_
              rintro e w4 ⟨⟨a4, k4, rfl, hm4, ho4⟩, hat4, hfr4, hg4⟩
              have HB4 := Lib.hid (SB.grown HB3.out hg4 (by intro h5; exact hnb.out.2.1 (Option.some.inj h5)))
              have hf4 := HB4.out.fr 0
              have hc4 := HB4.out.c0
              have HS4 := Lib.hid (HS3.out.after hg4 hat4 hfr4)
              have HM4 := Lib.hid hm4
              have HO4 := Lib.hid ho4
              have HG4 := Lib.hid hg4
              clear hm4 ho4 hat4 hfr4 hg4)
            go_meet
            case rel =>
              have hb3 := HB3.out.lt
              have hol := HS3.out.row.lt
              have hbal := World.block_lt_of_cell? w3 _ HS3.out.at_
              simp only at hbal
              have hset : w4.grownBy (w4.setCell ⟨bs, 0, none⟩ (.slice a4 1 k4)) (some bs) := grown_set (World.grownBy.refl _ _) 0 _
              have hne4 : 0 < 1 → ∀ p, a4 = some p → some p.block ≠ u7.ownBlock ∧ ba < p.block ∧ p.block ≠ bs := fun _ p hp => by
                have h6 := HO4.out p hp
                exact ⟨fun h8 => by have h9 := hol _ h8.symm; omega, by omega, by omega⟩
              rw [hl1]
              refine ⟨by simp [hn0], bs, a4, k4, rfl, Lib.hid (HB4.out.set0 _), Lib.hid ?_, Lib.hid ?_, hnb, Lib.hid hne4⟩
              · have h5 := HS4.out
                rw [hk0, Nat.add_zero] at h5
                exact h5.grown hset (by intro h6; exact hnb.out.2.1 (Option.some.inj h6)) (by intro h6; exact hnb.out.2.2.1 (Option.some.inj h6)) (.inr hnb.out.1) (by intro j hj; cases hj; exact ⟨hnb.out.2.2.2, fun h7 => h7.2 rfl⟩)
              · have h5 := memL_slit HM4.out
                rw [hk0, Nat.add_zero] at h5
                exact h5.grown' hset (fun _ p hp h7 => (hne4 (by omega) p hp).2.2 (Option.some.inj h7))
          · have hz1 : ((n : Int) + (k : Int) == 0) = false := by simp; omega
            have hl1 : litn v n = k := by unfold litn; rw [← HK.out, if_neg hz]
            go_wp2
            go_meet
            case rel =>
              rw [hl1]
              exact ⟨by simp, bs, a1, k1, rfl, HB3, HS3, HM3, hnb, hfr⟩
        case rest =>
          clear HB3 HS3 HM3 hnb hfr
          obtain ⟨rfl, bs, a, c, rfl, HB, HS, HL, hnb, hfr⟩ := hcut
          obtain ⟨nn, hnn⟩ : ∃ nn, nn = n + litn v n := ⟨_, rfl⟩
          have hli := litn_le v n
          have hnn0 := litn_pos v n
          rw [← hnn] at hnn0 ⊢
          have hnb2 : nn < 65535 := by omega
          have HNN := Lib.hid hnn
          clear hnn
          have hn0 : ((nn : Int) == 0) = false := by simp; omega
          have hmin1 : ¬ (65535 : Int) < (nn : Int) := by omega
          have hc0 := HB.out.c0
          have hc1 := HB.out.c1
          have hc2 := HB.out.c2
          have hf1 := HB.out.fr 1
          have hf2 := HB.out.fr 2
          have hw : wrap64 (1 + (v : Int) / 512 % (nn : Int)) = (sfar v nn : Int) := by
            have h5 : (v : Int) / 512 % (nn : Int) = ((v / 512 % nn : Nat) : Int) := by simp
            have h6 := Nat.mod_lt (v / 512) hnn0
            rw [h5, sfar, Nat.min_eq_left (by omega)]
            unfold wrap64
            omega
          go_upto_if 68 with fail
          go_cut [14] from 28 to 83 (fun s14 wx => s14 = .pointer (some ⟨bs, 0, none⟩) ∧ Hid (SB wx bs (.slice a (litn v n) c) (.int .i64 (sfar v nn : Int)) (.int .i64 (mlen v : Int))) ∧ Hid (wc.grownBy wx (some bs)))
          case first =>
            by_cases hz : v / 1048576 % 8 = 0
            · have hz1 : ((v : Int) / 1048576 % 8 == 0) = true := by simp; omega
              have hm5 : (4 + (v : Int) / 4096 % 700) = (mlen v : Int) := by rw [mlen, if_pos hz]; omega
              go_wp2
              go_meet
              case rel => exact ⟨rfl, Lib.hid (((HB.out.set1 _).set2 _).set2 _), Lib.hid (grown_set (grown_set (grown_set (World.grownBy.refl _ _) _ _) _ _) _ _)⟩
            · have hz1 : ((v : Int) / 1048576 % 8 == 0) = false := by simp; omega
              have hm5 : (4 + (v : Int) / 16777216 % 24) = (mlen v : Int) := by rw [mlen, if_neg hz]; omega
              go_wp2
              go_meet
              case rel => exact ⟨rfl, Lib.hid ((HB.out.set1 _).set2 _), Lib.hid (grown_set (grown_set (World.grownBy.refl _ _) _ _) _ _)⟩
          case rest =>
            obtain ⟨rfl, HB5, HG5⟩ := hcut
            have hml := mlen_le v
            have hc0' := HB5.out.c0
            have hc1' := HB5.out.c1
            have hc2' := HB5.out.c2
            clear hc0 hc1 hc2 hf1 hf2
            have HS5 := Lib.hid ((HS.out.grown HG5.out (by intro h6; exact hnb.out.2.1 (Option.some.inj h6)) (by intro h6; exact hnb.out.2.2.1 (Option.some.inj h6)) (.inr hnb.out.1) (by intro j hj; cases hj; exact ⟨hnb.out.2.2.2, fun h7 => h7.2 rfl⟩)).mono (G' := fun j => ba < j) (fun j h6 _ => h6.1) (fun j h6 => h6))
            have HL5 := Lib.hid (HL.out.grown' HG5.out (fun h6 p hp h7 => (hfr.out (by rwa [slit_length] at h6) p hp).2.2 (Option.some.inj h7)))
            go_wp2_with (
              at_builtin
              refine wpList_append_step (base := w.heap.size) (G := fun j => ba < j) (v := u7) (l := l) (s := ⟨slit (streamAt Z m) x (litn v n), sfar v nn, mlen v⟩) (ad := a) (c := c) rfl (.tmp 79) (.tmp 81) rfl rfl (HS5.out.alloc _).row ⟨wc.heap.size, 0, none⟩ 1 rfl
                (by rw [show stepVals ⟨slit (streamAt Z m) x (litn v n), sfar v nn, mlen v⟩ a c = (#[Value.slice a (litn v n) c, Value.int IntKind.i64 (sfar v nn : Int), Value.int IntKind.i64 (mlen v : Int)] : Array Value).toList by simp [stepVals, slit_length]]; exact World.news_of_block (heap_alloc_new wc _))
                (HL5.out.below ((Below.refl _ _).alloc (Nat.le_refl _) _)) (fun h6 p hp => by rw [slit_length] at h6; have h7 := hfr.out h6 p hp; exact ⟨h7.1, h7.2.1⟩) (by omega) (by have h6 := HS5.out.below.size; simp; omega) ?_
              intro v9 w9 row9 hg9 hat9
              have HS9 := Lib.hid ((HS5.out.alloc _).append row9 hg9 hat9)
              clear row9 hg9 hat9)
            refine ⟨⟨i + 1, nn + mlen v, x + litn v n, l ++ [⟨slit (streamAt Z m) x (litn v n), sfar v nn, mlen v⟩], by omega, by have h6 := HNN.out; omega, by omega, by simp [hl], by simp, rfl, Lib.hid ?_, HS9⟩, ?_⟩
            · rw [HM.out, HD.out, mk, ← HNN.out, List.append_assoc]
              rfl
            · show L - ((i : Int) + 1).toNat < L - (i : Int).toNat
              omega
    · obtain rfl : i = L := by omega
      have l3 : ¬ (i : Int) < (i : Int) := by omega
      have hq2 : 12 + (nl : Int) % 9 = (q : Int) := by omega
      have HQ := Lib.hid hq
      have hqb : q ≤ 20 := by omega
      have HM2 : Hid (mk (streamAt Z m) q vs ahead 0 = l ++ [⟨slit (streamAt Z m) x q, 0, 0⟩]) := Lib.hid (by
        rw [HM.out, List.drop_of_length_le (by rw [hvs]; simp), mk])
      have HS2 := HS
      clear hi hil hq
      go_wp2_with (first
        | (go_at_call 19
           refine Calls.mono (take19 q x ba bd m Z wr (HS2.out.take HZ.out hZ2) (by omega) (by omega) (by omega)) ?_
           rintro e w2 ⟨⟨a1, k1, rfl, hm1, ho1⟩, hat1, hfr1, hg1⟩
           have hbl := World.block_lt_of_cell? wr _ HS2.out.at_
           have HS3 := Lib.hid (HS2.out.after hg1 hat1 hfr1)
           have HM1 := Lib.hid (memL_slit hm1)
           have HO1 := Lib.hid (fun (h6 : 0 < q) (p : Addr) (hp : a1 = some p) => (⟨fun h8 => by have h9 := (HS2.out.row.lt _ h8.symm).2; have h7 := ho1 p hp; omega, by have h7 := ho1 p hp; simp only at hbl; omega⟩ : some p.block ≠ u7.ownBlock ∧ ba < p.block))
           clear hm1 ho1 hat1 hfr1 hg1 hbl)
        | (at_builtin
           refine wpList_append_step (base := w.heap.size) (G := fun j => ba < j) (v := u7) (l := l) (s := ⟨slit (streamAt Z m) x q, 0, 0⟩) (ad := a1) (c := k1) rfl (.tmp 84) (.tmp 92) rfl rfl (HS3.out.alloc _).row ⟨w2.heap.size, 0, none⟩ 1 rfl
             (by rw [show stepVals ⟨slit (streamAt Z m) x q, 0, 0⟩ a1 k1 = (#[Value.slice a1 q k1, Value.int IntKind.i64 0, Value.int IntKind.i64 0] : Array Value).toList by simp [stepVals, slit_length]]; exact World.news_of_block (heap_alloc_new w2 _))
             (HM1.out.below ((Below.refl _ _).alloc (Nat.le_refl _) _)) (fun h6 p hp => by rw [slit_length] at h6; exact HO1.out h6 p hp) (by omega) (by have h6 := HS3.out.below.size; simp; omega) ?_
           intro v9 w9 row9 hg9 hat9
           have HS9 := Lib.hid ((HS3.out.alloc _).append row9 hg9 hat9)
           clear row9 hg9 hat9))
      go_ret
      have hgoal : mk (streamAt Z m) (12 + nl % 9) ((List.range (min nl 20)).map fun i => (N i).toNat) ahead 0 = mk (streamAt Z m) q vs ahead 0 := by rw [HVS.out, HQ.out, HLE.out]
      rw [hgoal]
      have h6 := HS9.out.row
      rw [← HM2.out] at h6
      obtain ⟨g, cap, rfl, h7, h8, h9, h10⟩ := h6.mem (by obtain ⟨s0, r0, h11⟩ := mk_ne (streamAt Z m) q vs ahead 0; rw [h11]; simp)
      exact ⟨g, cap, rfl, h7, h8, HS9.out.below⟩
end Go.Proofs.Ytkfkbbablgbfoaa
