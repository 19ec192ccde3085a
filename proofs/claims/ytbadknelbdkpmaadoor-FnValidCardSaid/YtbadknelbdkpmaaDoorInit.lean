/-
  FrameDescriptor.initR on a head of ours: no error.
-/
import Derived.Test.YtbadknelbdkpmaaDoorDescr
import Derived.Deep.CutRange
namespace Go.Proofs.YtbadknelbdkpmaaDoor
open Go.RowKit
set_option linter.unusedVariables false
set_option maxHeartbeats 2000000
set_option maxRecDepth 20000
theorem or16 (x y : Int) (hx : 0 ≤ x ∧ x ≤ 255) (hy : 0 ≤ y ∧ y ≤ 255) : bits .or .u16 x (y * 256) = x + 256 * y := by
  obtain ⟨a, rfl⟩ := Int.eq_ofNat_of_zero_le hx.1
  obtain ⟨b, rfl⟩ := Int.eq_ofNat_of_zero_le hy.1
  have hk : ∀ n : Int, 0 ≤ n → n < 2 ^ 16 → IntKind.u16.wrap n = n := by
    intro n h1 h2
    simp [IntKind.wrap, IntKind.bits, IntKind.signed]
    omega
  have h1 : a < 2 ^ 8 := by omega
  have e : ((b : Int) * 256) = ((2 ^ 8 * b : Nat) : Int) := by simp; omega
  rw [e, (bits_nat .u16 16 (by decide) hk a (2 ^ 8 * b) (by omega) (by omega)).2, Nat.or_comm, ← Nat.two_pow_add_eq_or_of_lt h1 b]
  simp; omega
/-- the frame's memory, its bytes put in: V with one value turned -/
theorem RS.setf {w0 w : World} {f r sb so len cap : Nat} {S : Nat → Int} {V : Nat → Value} {p : Nat} {x : Int} (h : RS w0 w f r sb so len cap S V p x) (j : Nat) (u : Value) : RS w0 (w.setCell ⟨f, j, none⟩ u) f r sb so len cap S (put1 V j u) p x :=
  ⟨h.fr.set j u, Rowf.grown h.rd (grown_set (World.grownBy.refl _ _) j _) (by intro e; exact h.ne (Option.some.inj e).symm), h.below.setCell h.lof _, h.src, h.lof, h.lor, h.ne, h.pos⟩
theorem init_legacy {w0 w : World} {f r sb so len cap : Nat} {S : Nat → Int} {V : Nat → Value} {p : Nat} {x : Int} (h : RS w0 w f r sb so len cap S V p x) (hV : V 15 = .int .u32 407642370) :
    Calls Tryd.prog 25 #[.pointer (some ⟨f, 16, none⟩), .pointer (some ⟨f, 0, none⟩), .iface 55 (.pointer (some ⟨r, 0, none⟩))] w fun e w' => e = .returned .nilIface ∧ ∃ V', RS w0 w' f r sb so len cap S V' p x := by
  have H := Lib.hid h
  have c15 := h.fr.cell (j := 15) (by omega)
  rw [hV] at c15
  have c16 := h.fr.cell (j := 16) (by omega)
  have f16 := h.fr.free 16
  clear h
  go_enter Tryd.func25, Tryd.ntmps25
  go_wp2_with (go_at_call 29; refine Calls.mono (legacy29 f _ _ c15) ?_; rintro e w2 ⟨rfl, rfl⟩)
  go_ret
  exact ⟨rfl, _, H.out.setf 16 _⟩
theorem RS.at {w0 w : World} {f r sb so len cap : Nat} {S : Nat → Int} {V : Nat → Value} {p : Nat} {x : Int} (h : RS w0 w f r sb so len cap S V p x) (i : Nat) (hi : i < 45) (v : Value) (hv : V i = v) : w.cell? ⟨f, i, none⟩ = some v := by
  rw [h.fr.cell hi, hv]
theorem upd_in {V : Nat → Value} {off m : Nat} {G : Nat → Value} {i : Nat} (h : off ≤ i ∧ i < off + m) : upd V off m G i = G (i - off) := by unfold upd; rw [if_pos h]
theorem upd_out {V : Nat → Value} {off m : Nat} {G : Nat → Value} {i : Nat} (h : i < off ∨ off + m ≤ i) : upd V off m G i = V i := by unfold upd; rw [if_neg (by omega)]
theorem put1_ne {V : Nat → Value} {j i : Nat} {u : Value} (h : i ≠ j) : put1 V j u i = V i := by unfold put1; rw [if_neg h]
theorem put1_eq {V : Nat → Value} {j : Nat} {u : Value} : put1 V j u j = u := by unfold put1; rw [if_pos rfl]
theorem init_plain {w0 w : World} {f r sb so len cap : Nat} {S : Nat → Int} {V : Nat → Value} {p : Nat} {x M : Int} {D : Nat} (h : RS w0 w f r sb so len cap S V p x) (hV : V 15 = .int .u32 M) (hM : (M == 407642370) = false)
    (hS : ∀ i, 0 ≤ S i ∧ S i ≤ 255) (hD : (D : Int) = S p + 256 * S (p + 1)) (h2 : D % 2 = 0) (h8 : D / 8 % 2 = 0) (h64 : D / 64 % 4 = 1) (hres : bits .and .u16 (D : Int) 36610 = 0) (hb : 4 ≤ D / 4096 % 8) (hp : p + 3 ≤ len)
    (hsum : S (p + 2) = sumOf (fun i => S (p + i)) 2 / 256 % 256) (hl : len ≤ 1000000) (hcap : len ≤ cap) (hcap2 : cap ≤ 9223372036854775807) :
    Calls Tryd.prog 25 #[.pointer (some ⟨f, 16, none⟩), .pointer (some ⟨f, 0, none⟩), .iface 55 (.pointer (some ⟨r, 0, none⟩))] w fun e w' => e = .returned .nilIface ∧ ∃ V' p', RS w0 w' f r sb so len cap S V' p' (-1) := by
  have H := Lib.hid h
  have HS := Lib.hid hS
  have c15 := h.fr.cell (j := 15) (by omega)
  rw [hV] at c15
  have c16 := h.fr.cell (j := 16) (by omega)
  have hs0 := hS p
  have hs1 := hS (p + 1)
  have hDb : D < 65536 := by omega
  have hor : bits .or .u16 (S p) (S (p + 1) * 256) = (D : Int) := by rw [or16 _ _ hs0 hs1, hD]
  have HSUM := Lib.hid hsum
  have q := nil_neq
  clear h hS hsum hD
  go_enter Tryd.func25, Tryd.ntmps25
  go_wp2_with (first
    | (go_at_call 29; refine Calls.mono (legacy29 f M _ c15) ?_; rintro e w1 ⟨rfl, rfl⟩)
    | (go_at_call 27
       refine Calls.mono (full27 H.out 0 3 15 (by omega) (by omega) (by omega) (by omega) (by omega) hl hcap hcap2) ?_
       rintro e w2 ⟨rfl, h2⟩
       have d0 := h2.at 0 (by omega) (.int .u8 (S p)) rfl
       have d1 := h2.at 1 (by omega) (.int .u8 (S (p + 1))) rfl
       have d2 := h2.at 2 (by omega) (.int .u8 (S (p + 2))) rfl
       have d16 := h2.fr.cell (j := 16) (by omega)
       have d17 := h2.fr.cell (j := 17) (by omega)
       have d18 := h2.fr.cell (j := 18) (by omega)
       have f16 := h2.fr.free 16
       have f17 := h2.fr.free 17
       have f18 := h2.fr.free 18
       have H2 := Lib.hid h2
       clear h2)
    | (go_at_call 30
       refine Calls.mono (le30 f 0 3 15 (S p) (S (p + 1)) _ (by omega) d0 d1 (HS.out _) (HS.out _)) ?_
       rw [hor]
       rintro e w3 ⟨rfl, m3, rfl⟩)
    | (go_at_call 31; refine Calls.mono (size31 D hDb _) ?_; rw [h8]; rintro e w4 ⟨rfl, rfl⟩)
    | (go_at_call 32; refine Calls.mono (dict32 D hDb h2 _) ?_; rintro e w4 ⟨rfl, rfl⟩)
    | (go_at_call 34
       refine Calls.mono (descr34 (some ⟨f, 0, none⟩) 2 15 (fun i => S (p + i)) (fun i => HS.out _) (by omega) (by omega) (by omega) _ (.inr ⟨f, 0, rfl, fun i hi => by
         rw [Nat.zero_add]
         exact (((H2.out.drewN m3).setf 16 (.int .u16 (D : Int))).setf 18 (.int .u8 (S (p + 2)))).at i (by omega) _ (by rw [put1_ne (by omega), put1_ne (by omega), upd_in (by omega), Nat.sub_zero])⟩)) ?_
       rw [← HSUM.out]
       rintro e w5 ⟨rfl, m5, rfl⟩)
    | (go_at_call 35; refine Calls.mono (ver35 D hDb _) ?_; rw [h64]; rintro e w4 ⟨rfl, rfl⟩)
    | (go_at_call 36; refine Calls.mono (bsi36 D hDb _) ?_; rintro e w4 ⟨rfl, rfl⟩)
    | (go_at_call 37; refine Calls.mono (valid37 (D / 4096 % 8) (by omega) _) ?_; rintro e w4 ⟨rfl, rfl⟩))
  go_ret
  exact ⟨rfl, _, _, (((H2.out.drewN m3).setf 16 (.int .u16 (D : Int))).setf 18 (.int .u8 (S (p + 2)))).drewN m5⟩
theorem init_sized {w0 w : World} {f r sb so len cap : Nat} {S : Nat → Int} {V : Nat → Value} {p : Nat} {x M : Int} {D : Nat} (h : RS w0 w f r sb so len cap S V p x) (hV : V 15 = .int .u32 M) (hM : (M == 407642370) = false)
    (hS : ∀ i, 0 ≤ S i ∧ S i ≤ 255) (hD : (D : Int) = S p + 256 * S (p + 1)) (h2 : D % 2 = 0) (h8 : D / 8 % 2 = 1) (h64 : D / 64 % 4 = 1) (hres : bits .and .u16 (D : Int) 36610 = 0) (hb : 4 ≤ D / 4096 % 8) (hp : p + 11 ≤ len)
    (hsum : S (p + 10) = sumOf (fun i => S (p + i)) 10 / 256 % 256) (hl : len ≤ 1000000) (hcap : len ≤ cap) (hcap2 : cap ≤ 9223372036854775807) :
    Calls Tryd.prog 25 #[.pointer (some ⟨f, 16, none⟩), .pointer (some ⟨f, 0, none⟩), .iface 55 (.pointer (some ⟨r, 0, none⟩))] w fun e w' => e = .returned .nilIface ∧ ∃ V' p', RS w0 w' f r sb so len cap S V' p' (-1) := by
  have H := Lib.hid h
  have HS := Lib.hid hS
  have c15 := h.fr.cell (j := 15) (by omega)
  rw [hV] at c15
  have c16 := h.fr.cell (j := 16) (by omega)
  have hs0 := hS p
  have hs1 := hS (p + 1)
  have hDb : D < 65536 := by omega
  have hor : bits .or .u16 (S p) (S (p + 1) * 256) = (D : Int) := by rw [or16 _ _ hs0 hs1, hD]
  have HSUM := Lib.hid hsum
  have q := nil_neq
  clear h hS hsum hD
  go_enter Tryd.func25, Tryd.ntmps25
  go_wp2_with (first
    | (go_at_call 29; refine Calls.mono (legacy29 f M _ c15) ?_; rintro e w1 ⟨rfl, rfl⟩)
    | (go_at_call_of 27 (Value.slice (some ⟨f, 0, none⟩) 3 15)
       refine Calls.mono (full27 H.out 0 3 15 (by omega) (by omega) (by omega) (by omega) (by omega) hl hcap hcap2) ?_
       rintro e w2 ⟨rfl, h2⟩
       have d0 := h2.at 0 (by omega) (.int .u8 (S p)) rfl
       have d1 := h2.at 1 (by omega) (.int .u8 (S (p + 1))) rfl
       have d2 := h2.at 2 (by omega) (.int .u8 (S (p + 2))) rfl
       have d16 := h2.fr.cell (j := 16) (by omega)
       have d17 := h2.fr.cell (j := 17) (by omega)
       have d18 := h2.fr.cell (j := 18) (by omega)
       have f16 := h2.fr.free 16
       have f17 := h2.fr.free 17
       have f18 := h2.fr.free 18
       have H2 := Lib.hid h2
       clear h2)
    | (go_at_call 30
       refine Calls.mono (le30 f 0 3 15 (S p) (S (p + 1)) _ (by omega) d0 d1 (HS.out _) (HS.out _)) ?_
       rw [hor]
       rintro e w3 ⟨rfl, m3, rfl⟩)
    | (go_at_call 31; refine Calls.mono (size31 D hDb _) ?_; rw [h8]; rintro e w4 ⟨rfl, rfl⟩)
    | (go_at_call 32; refine Calls.mono (dict32 D hDb h2 _) ?_; rintro e w4 ⟨rfl, rfl⟩)
    | (go_at_call_of 27 (Value.slice (some ⟨f, 3, none⟩) 8 12)
       refine Calls.mono (full27 ((H2.out.drewN m3).setf 16 (.int .u16 (D : Int))) 3 8 12 (by omega) (by omega) (by omega) (by omega) (by omega) hl hcap hcap2) ?_
       rintro e w6 ⟨rfl, h6⟩
       have hV6 : ∀ i, i < 11 → upd (put1 (upd V 0 3 fun j => Value.int .u8 (S (p + j))) 16 (.int .u16 (D : Int))) 3 8 (fun j => .int .u8 (S (p + 3 + j))) i = .int .u8 (S (p + i)) := fun i hi => by
         by_cases h3 : i < 3
         · rw [upd_out (by omega), put1_ne (by omega), upd_in (by omega), Nat.sub_zero]
         · rw [upd_in (by omega), show p + 3 + (i - 3) = p + i by omega]
       have g10 := h6.at 10 (by omega) _ (hV6 10 (by omega))
       have g16 := h6.at 16 (by omega) (.int .u16 (D : Int)) (by rw [upd_out (by omega), put1_eq])
       have g17 := h6.fr.cell (j := 17) (by omega)
       have g18 := h6.fr.cell (j := 18) (by omega)
       have k17 := h6.fr.free 17
       have k18 := h6.fr.free 18
       have HV6 := Lib.hid hV6
       have H6 := Lib.hid h6
       clear h6 hV6)
    | (go_at_call 33
       refine Calls.mono (le33 f 2 9 13 (fun j => S (p + (2 + j))) _ (by omega) (by omega) (by omega) (fun j hj => H6.out.at (2 + j) (by omega) _ (HV6.out (2 + j) (by omega))) (fun j => HS.out _)) ?_
       rintro e w7 ⟨⟨y, rfl⟩, m7, rfl⟩)
    | (go_at_call 34
       refine Calls.mono (descr34 (some ⟨f, 0, none⟩) 10 15 (fun i => S (p + i)) (fun i => HS.out _) (by omega) (by omega) (by omega) _ (.inr ⟨f, 0, rfl, fun i hi => by
         rw [Nat.zero_add]
         exact (((H6.out.drewN m7).setf 17 (.int .u64 y)).setf 18 (.int .u8 (S (p + 10)))).at i (by omega) _ (by rw [put1_ne (by omega), put1_ne (by omega), HV6.out i (by omega)])⟩)) ?_
       rw [← HSUM.out]
       rintro e w5 ⟨rfl, m5, rfl⟩)
    | (go_at_call 35; refine Calls.mono (ver35 D hDb _) ?_; rw [h64]; rintro e w4 ⟨rfl, rfl⟩)
    | (go_at_call 36; refine Calls.mono (bsi36 D hDb _) ?_; rintro e w4 ⟨rfl, rfl⟩)
    | (go_at_call 37; refine Calls.mono (valid37 (D / 4096 % 8) (by omega) _) ?_; rintro e w4 ⟨rfl, rfl⟩))
  go_ret
  exact ⟨rfl, _, _, (((H6.out.drewN m7).setf 17 (.int .u64 y)).setf 18 (.int .u8 (S (p + 10)))).drewN m5⟩
end Go.Proofs.YtbadknelbdkpmaaDoor
