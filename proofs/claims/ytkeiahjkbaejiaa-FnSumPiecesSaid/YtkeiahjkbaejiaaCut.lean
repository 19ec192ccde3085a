/-
  The contract of laws.cut: slices of the data, one behind the other, that make up the data.
-/
import Derived.Test.YtkeiahjkbaejiaaPieces2
namespace Go.Proofs.Ytkeiahjkbaejiaa
open Go.RowKit Go.Maps
set_option linter.unusedVariables false
def Pieces (w : World) (D : Nat → Int) (n : Nat) (e : Ending) (w' : World) : Prop :=
  ∃ pa np pc vs, e = .returned (.slice pa np pc) ∧ vs.length = np ∧ np ≤ 65537 ∧ (np = 0 ∨ ∃ b off, pa = some ⟨b, off, none⟩ ∧ ∀ i (h : i < vs.length), w'.cell? ⟨b, off + i, none⟩ = some vs[i]) ∧ CutW w' D 0 vs n ∧ Below w.heap.size w w'
set_option maxHeartbeats 1000000 in
theorem cut_whole (a0 : Option Addr) (n cap : Nat) (D : Nat → Int) (a1 : Option Addr) (c1 : Nat) (w : World) (hM : Mem w .u8 a0 n cap D) :
    Calls Try.prog 10 #[.slice a0 n cap, .slice a1 0 c1] w (Pieces w D n) := by
  have HM := Lib.hid hM
  clear hM
  go_enter Try.func10, Try.ntmps10
  go_wp2
  go_ret
  have hb : Below w.heap.size w (w.alloc (.cells #[.slice a0 n cap] 25)) := (Below.refl _ _).alloc (Nat.le_refl _) _
  refine ⟨some ⟨w.heap.size, 0, none⟩, 1, 1, [.slice a0 n cap], rfl, rfl, by omega, .inr ⟨_, _, rfl, ?_⟩, ⟨a0, n, cap, rfl, by simpa using HM.out.below hb, by show n = 0 + n; omega⟩, hb⟩
  intro i hi
  have : i = 0 := by simpa using hi
  subst this
  simp [World.cell?_alloc_new]
set_option maxHeartbeats 1000000 in
theorem cut_some (b off n cap : Nat) (a0 : Option Addr) (D : Nat → Int) (bs os m c1 : Nat) (Z : Nat → Int) (w : World) (hn : n ≤ 65536) (hcap : n ≤ cap) (hcm : cap ≤ 9223372036854775807)
    (ha : 0 < n → a0 = some ⟨b, off, none⟩) (hc : ∀ i, i < n → w.cell? ⟨b, off + i, none⟩ = some (.int .u8 (D i))) (hm : 0 < m) (hm2 : m ≤ 100) (hZ : ∀ i, 0 ≤ Z i ∧ Z i ≤ 65535)
    (hz : ∀ i, i < m → w.cell? ⟨bs, os + i, none⟩ = some (.int .u16 (Z i))) :
    Calls Try.prog 10 #[.slice a0 n cap, .slice (some ⟨bs, os, none⟩) m c1] w (Pieces w D n) := by
  obtain ⟨i0, hi, hz0, hz1, hz2⟩ := info_parts info25
  have HC := Lib.hid hc
  have HA := Lib.hid ha
  have HZ := Lib.hid hZ
  have HZC := Lib.hid hz
  have hm0 : ((m : Int) == 0) = false := by simp; omega
  clear hc ha hZ hz
  go_enter Try.func10, Try.ntmps10
  go_wp2
  go_loopw [0, 5, 6, 7] (fun s o i _ wr => ∃ (t k : Nat) (a : Option Addr) (ls : List Value), t ≤ n ∧ k ≤ t ∧ s = .slice a (n - t) (cap - t) ∧ i = .int .i64 (k : Int) ∧ Hid (ls.length = k) ∧ Hid (t < n → a = some ⟨b, off + t, none⟩) ∧
      Hid (wr.ownsRow w.heap.size 25 1 o ls.length ls ∧ CutO w none D 0 ls t ∧ Below w.heap.size w wr))
    (fun s _ _ _ _ => match s with | .slice _ l _ => l | _ => 0)
  case atStart => exact ⟨0, 0, _, [], by omega, by omega, rfl, rfl, rfl, HA.out, World.ownsRow_made w #[] 0 (Nat.le_refl _) (Nat.zero_le _) rfl, rfl, (Below.refl _ _).alloc (Nat.le_refl _) _⟩
  case round =>
    obtain ⟨t, k, a, ls, ht, hk, rfl, rfl, HLS, HAT, HI⟩ := hrel
    by_cases hlt : t < n
    · obtain rfl := HAT.out hlt
      have hkm : k % m < m := Nat.mod_lt _ hm
      have hzc : wr.cell? ⟨bs, os + k % m, none⟩ = some (.int .u16 (Z (k % m))) := by
        have h1 := HZC.out (k % m) hkm
        rw [HI.out.2.2.cell (p := ⟨bs, os + k % m, none⟩) (World.block_lt_of_cell? w _ h1)]
        exact h1
      have hzb := HZ.out (k % m)
      have hbl : b < w.heap.size := World.block_lt_of_cell? w _ (HC.out t hlt)
      obtain ⟨y, hy⟩ : ∃ y : Nat, Z (k % m) = (y : Int) := ⟨(Z (k % m)).toNat, by omega⟩
      rw [hy] at hzc hzb
      have HBL := Lib.hid hbl
      clear hy hbl HAT
      have hl1 : (0 : Int) < ((n - t : Nat) : Int) := by omega
      by_cases hmin : 1 + (y : Int) < ((n - t : Nat) : Int)
      · go_wp2_with (at_builtin; refine wpList_append_own _ rfl _ _ 31 rfl w.heap.size 25 i0 (.slice none 0 0) 1 24 Try.underlying31 hi hz0 hz1 hz2 rfl (by decide) _ _ _ rfl (HI.out.1.alloc _) ⟨wr.heap.size, 0, none⟩ 1 1 [.slice (some ⟨b, off + t, none⟩) (1 + y) (cap - t)] rfl rfl (cell_one_new _ _ _) (by intro u hu; simp at hu; subst hu; rfl) (by unfold maxLen; have := HLS.out; omega) (by have := HLS.out; omega) (by have := HI.out.2.2.size; simp; omega) ?_; intro v' w3 hown' hgrow _; (have HOWN := Lib.hid hown'); (have HGR := Lib.hid hgrow); clear hown' hgrow)
        all_goals
          have hbl := HBL.out
          have hb3 : Below w.heap.size w w3 := (HI.out.2.2.alloc HI.out.2.2.size _).grown HGR.out (by have := HI.out.2.2.size; simp; omega) (fun j hj => (HI.out.1.lt j hj).1)
          have hp : Mem w .u8 (some ⟨b, off + t, none⟩) (1 + y) (cap - t) (fun i => D (t + i)) := ⟨by omega, by omega, .inr ⟨b, off + t, rfl, fun i hi => by rw [Nat.add_assoc]; exact HC.out _ (by omega)⟩⟩
          have hs := HI.out.2.1.snoc (a := some ⟨b, off + t, none⟩) (n := 1 + y) (c := cap - t) hp (by intro x hx; cases hx; exact ⟨hbl, by simp⟩)
          go_roundw
          case rel => exact ⟨t + (1 + y), k + 1, _, ls ++ [.slice (some ⟨b, off + t, none⟩) (1 + y) (cap - t)], by omega, by omega, by congr 1 <;> omega, by go_num, by have := HLS.out; simp [Hid]; omega, by intro h; simp [Nat.add_assoc], by simpa using HOWN.out, hs, hb3⟩
          case measure => show n - t - (1 + y) < n - t; omega
      · go_wp2_with (at_builtin; refine wpList_append_own _ rfl _ _ 31 rfl w.heap.size 25 i0 (.slice none 0 0) 1 24 Try.underlying31 hi hz0 hz1 hz2 rfl (by decide) _ _ _ rfl (HI.out.1.alloc _) ⟨wr.heap.size, 0, none⟩ 1 1 [.slice (some ⟨b, off + t, none⟩) (n - t) (cap - t)] rfl rfl (cell_one_new _ _ _) (by intro u hu; simp at hu; subst hu; rfl) (by unfold maxLen; have := HLS.out; omega) (by have := HLS.out; omega) (by have := HI.out.2.2.size; simp; omega) ?_; intro v' w3 hown' hgrow _; (have HOWN := Lib.hid hown'); (have HGR := Lib.hid hgrow); clear hown' hgrow)
        all_goals
          have hbl := HBL.out
          have hb3 : Below w.heap.size w w3 := (HI.out.2.2.alloc HI.out.2.2.size _).grown HGR.out (by have := HI.out.2.2.size; simp; omega) (fun j hj => (HI.out.1.lt j hj).1)
          have hp : Mem w .u8 (some ⟨b, off + t, none⟩) (n - t) (cap - t) (fun i => D (t + i)) := ⟨by omega, by omega, .inr ⟨b, off + t, rfl, fun i hi => by rw [Nat.add_assoc]; exact HC.out _ (by omega)⟩⟩
          have hs := HI.out.2.1.snoc (a := some ⟨b, off + t, none⟩) (n := n - t) (c := cap - t) hp (by intro x hx; cases hx; exact ⟨hbl, by simp⟩)
          go_roundw
          case rel => exact ⟨n, k + 1, _, ls ++ [.slice (some ⟨b, off + t, none⟩) (n - t) (cap - t)], by omega, by omega, by congr 1 <;> omega, by go_num, by have := HLS.out; simp [Hid]; omega, by intro h; omega, by simpa using HOWN.out, by rwa [show t + (n - t) = n by omega] at hs, hb3⟩
          case measure => simp; omega
    · have hte : t = n := by omega
      have HT := Lib.hid hte
      have hd : ((n - t : Nat) : Int) = 0 := by omega
      have hd1 : n - t = 0 := by omega
      clear hte
      go_wp2
      go_ret
      obtain ⟨hO, hC, hB⟩ := HI.out
      rw [HT.out] at hC
      have hC2 := hC.cutW.grown hB
      rcases hO.2 with ⟨rfl, h0⟩ | ⟨gb, capb, cur, rfl, hbb, hgb, hnb, hcb, hszb, htk⟩
      · exact ⟨none, 0, 0, ls, rfl, h0, by omega, .inl rfl, hC2, hB⟩
      · exact ⟨some ⟨gb, 0, none⟩, ls.length, capb, ls, rfl, rfl, by have := HLS.out; omega, .inr ⟨gb, 0, rfl, fun i h => by rw [Nat.zero_add, hO.cellAt i (by omega)]; simp [h]⟩, hC2, hB⟩
end Go.Proofs.Ytkeiahjkbaejiaa
