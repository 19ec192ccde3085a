/-
  bytes.Reader, io.ReadFull, and the frame's buffer: reading so many bytes of what was handed in.
-/
import Derived.Test.YtbadknelbdkpmaaDoorView
import Derived.Test.YtbadknelbdkpmaaDoorClone
import Derived.Test.YtbadknelbdkpmaaDoorBase
import Derived.Deep.RegionHeld3
import Derived.Deep.RegionWith
namespace Go.Proofs.YtbadknelbdkpmaaDoor
open Go.RowKit
set_option linter.unusedVariables false
set_option maxHeartbeats 1000000
set_option maxRecDepth 20000
theorem cells5 : (Tryd.prog.info? 5).map (·.size) = some 1 := by kernel_rfl
/-- a bytes.Reader's three cells -/
def rdV (sl : Value) (p : Nat) (x : Int) : Nat → Value := fun j => if j = 0 then sl else if j = 1 then .int .i64 (p : Int) else .int .i64 x
/-- the frame f (45 cells), the reader r that has read p bytes of the bytes S, nothing else turned since w0 -/
structure RS (w0 w : World) (f r sb so len cap : Nat) (S : Nat → Int) (V : Nat → Value) (p : Nat) (x : Int) : Prop where
  fr : Rowf w f 72 45 V
  rd : Rowf w r 82 3 (rdV (.slice (some ⟨sb, so, none⟩) len cap) p x)
  below : Below w0.heap.size w0 w
  src : ∀ j, j < len → w0.cell? ⟨sb, so + j, none⟩ = some (.int .u8 (S j))
  lof : w0.heap.size ≤ f
  lor : w0.heap.size ≤ r
  ne : f ≠ r
  pos : 0 < len
theorem step_copy {w w' : World} {v v1 v2 : Value} {ops : Array Oper} {o : Oper} {a : Act} {K : Act → World → Prop} {Q : Exit → Act → World → Prop} {E : Prop} (hgd : o.guard = none) (s x : Operand)
    (ho : o.op = .call { callee := .builtin .copy, args := #[s, x], argTypes := #[23, 23] }) (hs : a.eval s = v1) (hx : a.eval x = v2) (hr : (Builtin.copy_ #[23, 23] o.type #[v1, v2]).run Tryd.prog w = .ok v w') (h : K (a.put o.dst v) w') :
    if Region.wanted o (yielded ops a.tmps) = true then Oper.wp Tryd.prog o a w K Q else E := by
  have hw : Region.wanted o (yielded ops a.tmps) = true := by simp [Region.wanted, hgd]
  rw [if_pos hw]
  unfold Oper.wp execOp
  simp only [ho, resolve, invoke, builtin, Sem.run_bind, Sem.run_pure, Result.andThen_ok, List.map_toArray, List.map_cons, List.map_nil, hs, hx, hr]
  exact h
theorem drewN_grown (w : World) (m : Nat) : w.grownBy (w.drewN m) none := ⟨rfl, rfl, rfl, Nat.le_refl _, fun _ _ _ => rfl⟩
theorem RS.setx {w0 w : World} {f r sb so len cap : Nat} {S : Nat → Int} {V : Nat → Value} {p : Nat} {x : Int} (h : RS w0 w f r sb so len cap S V p x) (y : Int) : RS w0 (w.setCell ⟨r, 2, none⟩ (.int .i64 y)) f r sb so len cap S V p y :=
  ⟨Rowf.grown h.fr (grown_set (World.grownBy.refl _ _) 2 _) (by intro e; exact h.ne (Option.some.inj e)), (h.rd.set 2 _).congr fun i hi => by
      unfold put1 rdV
      by_cases h2 : i = 2
      · subst h2; rfl
      · rw [if_neg h2]
        by_cases h0 : i = 0
        · rw [if_pos h0, if_pos h0]
        · have h1 : i = 1 := by omega
          rw [if_neg h0, if_neg h0, if_pos h1, if_pos h1], h.below.setCell h.lor _, h.src, h.lof, h.lor, h.ne, h.pos⟩
theorem RS.setp {w0 w : World} {f r sb so len cap : Nat} {S : Nat → Int} {V : Nat → Value} {p : Nat} {x : Int} (h : RS w0 w f r sb so len cap S V p x) (q : Nat) : RS w0 (w.setCell ⟨r, 1, none⟩ (.int .i64 (q : Int))) f r sb so len cap S V q x :=
  ⟨Rowf.grown h.fr (grown_set (World.grownBy.refl _ _) 1 _) (by intro e; exact h.ne (Option.some.inj e)), (h.rd.set 1 _).congr fun i hi => by
      unfold put1 rdV
      by_cases h1 : i = 1
      · subst h1; rfl
      · rw [if_neg h1]
        by_cases h0 : i = 0
        · rw [if_pos h0, if_pos h0]
        · rw [if_neg h0, if_neg h0, if_neg h1, if_neg h1], h.below.setCell h.lor _, h.src, h.lof, h.lor, h.ne, h.pos⟩
theorem RS.drewN {w0 w : World} {f r sb so len cap : Nat} {S : Nat → Int} {V : Nat → Value} {p : Nat} {x : Int} (h : RS w0 w f r sb so len cap S V p x) (m : Nat) : RS w0 (w.drewN m) f r sb so len cap S V p x :=
  ⟨h.fr, h.rd, h.below.grown (drewN_grown w m) h.below.size (by simp), h.src, h.lof, h.lor, h.ne, h.pos⟩
theorem RS.drew {w0 w : World} {f r sb so len cap : Nat} {S : Nat → Int} {V : Nat → Value} {p : Nat} {x : Int} (h : RS w0 w f r sb so len cap S V p x) : RS w0 w.drew f r sb so len cap S V p x :=
  ⟨h.fr, h.rd, h.below.drew, h.src, h.lof, h.lor, h.ne, h.pos⟩
theorem RS.c0 {w0 w : World} {f r sb so len cap : Nat} {S : Nat → Int} {V : Nat → Value} {p : Nat} {x : Int} (h : RS w0 w f r sb so len cap S V p x) : w.cell? ⟨r, 0, none⟩ = some (.slice (some ⟨sb, so, none⟩) len cap) := h.rd.cell (j := 0) (by omega)
theorem RS.c1 {w0 w : World} {f r sb so len cap : Nat} {S : Nat → Int} {V : Nat → Value} {p : Nat} {x : Int} (h : RS w0 w f r sb so len cap S V p x) : w.cell? ⟨r, 1, none⟩ = some (.int .i64 (p : Int)) := h.rd.cell (j := 1) (by omega)
theorem RS.c2 {w0 w : World} {f r sb so len cap : Nat} {S : Nat → Int} {V : Nat → Value} {p : Nat} {x : Int} (h : RS w0 w f r sb so len cap S V p x) : w.cell? ⟨r, 2, none⟩ = some (.int .i64 x) := h.rd.cell (j := 2) (by omega)
theorem RS.copied {w0 w : World} {f r sb so len cap : Nat} {S : Nat → Int} {V : Nat → Value} {p : Nat} {x : Int} (h : RS w0 w f r sb so len cap S V p x) (off n c : Nat) (hp : p + n ≤ len) (hn : 0 < n) (ho : off + n ≤ 45) (hcap : len ≤ cap) :
    ∃ w2, (Builtin.copy_ #[23, 23] 3 #[.slice (some ⟨f, off, none⟩) n c, .slice (some ⟨sb, so + p, none⟩) (len - p) (cap - p)]).run Tryd.prog w = .ok (.int .i64 (n : Int)) w2 ∧ RS w0 w2 f r sb so len cap S (upd V off n (fun j => .int .u8 (S (p + j)))) p x := by
  obtain ⟨w2, h1, h2, h3⟩ := run_copy_view (P := Tryd.prog) (w := w) 23 23 3 5 Tryd.underlying23 cells5 (some ⟨f, off, none⟩) (some ⟨sb, so + p, none⟩) n c (len - p) (cap - p) f off 72 45 n V (fun j => .int .u8 (S (p + j))) h.fr
    (by show n = min (len - p) n; omega) (fun _ => ⟨rfl, sb, so + p, rfl, fun j hj => by
      have h4 := h.src (p + j) (by omega)
      have h5 := World.block_lt_of_cell? w0 _ h4
      rw [Nat.add_assoc, h.below.cell h5]
      exact h4⟩) ho (fun _ _ => rfl)
  exact ⟨w2, h1, h2, Rowf.grown h.rd h3 (by intro e; exact h.ne (Option.some.inj e).symm), h.below.grown h3 h.below.size (by intro k hk; cases hk; exact h.lof), h.src, h.lof, h.lor, h.ne, h.pos⟩
theorem read66 {w0 w : World} {f r sb so len cap : Nat} {S : Nat → Int} {V : Nat → Value} {p : Nat} {x : Int} (h : RS w0 w f r sb so len cap S V p x) (off n c : Nat) (hp : p + n ≤ len) (hn : 0 < n) (ho : off + n ≤ 45) (hc : n ≤ c) (hl : len ≤ 1000000) (hcap : len ≤ cap) (hcap2 : cap ≤ 9223372036854775807) :
    Calls Tryd.prog 66 #[.pointer (some ⟨r, 0, none⟩), .slice (some ⟨f, off, none⟩) n c] w fun e w' => e = .returned (.tuple #[.int .i64 (n : Int), .nilIface]) ∧
      RS w0 w' f r sb so len cap S (upd V off n (fun j => .int .u8 (S (p + j)))) (p + n) (-1) := by
  have r0 := h.c0
  have r1 := h.c1
  have r2 := h.c2
  have f1 := h.rd.free 1
  have f2 := h.rd.free 2
  have H := Lib.hid h
  clear h
  go_enter Tryd.func66, Tryd.ntmps66
  have l1 : ¬ (len : Int) ≤ (p : Int) := by omega
  go_wp2
  go_quiet (fail)
  go_wp2
  have HX := Lib.hid ((H.out.drewN nq).setx (-1))
  clear r0 r1 r2 f1 f2 H
  generalize (w.drewN nq).setCell ⟨r, 2, none⟩ (.int .i64 (-1)) = X at HX ⊢
  have r0 := HX.out.c0
  have r1 := HX.out.c1
  obtain ⟨w2, hrun, h2⟩ := HX.out.drew.copied off n c hp hn ho hcap
  have H2 := Lib.hid h2
  have HR := Lib.hid hrun
  have r10 := h2.c0
  have r11 := h2.c1
  have f11 := h2.rd.free 1
  clear hrun h2
  have l2 : (p : Int) ≤ (len : Int) := by omega
  have l3 : (len : Int) ≤ (cap : Int) := by omega
  have hcp : ¬ cap = p := by omega
  go_region_held3 (fun w' => w'.cell? ⟨r, 0, none⟩ = some (.slice (some ⟨sb, so, none⟩) len cap) ∧ w'.cell? ⟨r, 1, none⟩ = some (.int .i64 (p : Int)))
    (first | exact ⟨r0, r1⟩ | exact ⟨r10, r11⟩)
    (first | (refine step_copy rfl (.tmp 20) (.tmp 29) rfl rfl rfl HR.out ?_))
  go_wp2
  go_ret2
  have h5 := H2.out.setp (p + n)
  rw [show ((p + n : Nat) : Int) = (p : Int) + (n : Int) by omega] at h5
  exact ⟨rfl, h5⟩
theorem nil_eql (w : World) : (binOp BinOp.eql 45 .nilIface .nilIface).run Tryd.prog w = .ok (.bool true) w := by kernel_rfl
theorem nil_neq (w : World) : (binOp BinOp.neq 45 .nilIface .nilIface).run Tryd.prog w = .ok (.bool false) w := by kernel_rfl
theorem ahead_read (a : Addr) (w : World) : (nilAhead 224 55 (.pointer (some a)) "Read").run Tryd.prog w = .ok (some false) w := by kernel_rfl
theorem method_read (a : Addr) (w : World) : (method 224 55 (.pointer (some a)) "Read").run Tryd.prog w = .ok (66, .pointer (some a)) w := by kernel_rfl
theorem atleast38 {w0 w : World} {f r sb so len cap : Nat} {S : Nat → Int} {V : Nat → Value} {p : Nat} {x : Int} (h : RS w0 w f r sb so len cap S V p x) (off n c : Nat) (hp : p + n ≤ len) (hn : 0 < n) (ho : off + n ≤ 45) (hc : n ≤ c) (hc2 : c ≤ 1000000) (hl : len ≤ 1000000) (hcap : len ≤ cap) (hcap2 : cap ≤ 9223372036854775807) :
    Calls Tryd.prog 38 #[.iface 55 (.pointer (some ⟨r, 0, none⟩)), .slice (some ⟨f, off, none⟩) n c, .int .i64 (n : Int)] w fun e w' => e = .returned (.tuple #[.int .i64 (n : Int), .nilIface]) ∧
      RS w0 w' f r sb so len cap S (upd V off n (fun j => .int .u8 (S (p + j)))) (p + n) (-1) := by
  have H := Lib.hid h
  clear h
  have q := nil_eql
  have qa := ahead_read ⟨r, 0, none⟩
  have qm := method_read ⟨r, 0, none⟩
  go_enter Tryd.func38, Tryd.ntmps38
  go_wp2
  go_loopw [6, 7] (fun s6 s7 wr => s7 = .nilIface ∧ ((s6 = .int .i64 0 ∧ Hid (RS w0 wr f r sb so len cap S V p x)) ∨ (s6 = .int .i64 (n : Int) ∧ Hid (RS w0 wr f r sb so len cap S (upd V off n (fun j => .int .u8 (S (p + j)))) (p + n) (-1)))))
    (fun s6 _ _ => match s6 with | .int _ k => n - k.toNat | _ => 0)
  case atStart => exact ⟨rfl, .inl ⟨rfl, H⟩⟩
  case round =>
    obtain ⟨rfl, hrel⟩ := hrel
    rcases hrel with ⟨rfl, HR⟩ | ⟨rfl, HR⟩
    · have l1 : (0 : Int) < (n : Int) := by omega
      have l2 : (0 : Int) ≤ (n : Int) := by omega
      have l3 : (n : Int) ≤ (c : Int) := by omega
      go_wp2
      go_region_with (
        go_at_call 66
        refine Calls.mono (read66 HR.out.drew off n c hp hn ho hc hl hcap hcap2) ?_
        rintro e w2 ⟨rfl, h2⟩
        have H2 := Lib.hid h2
        clear h2)
      go_wp2
      refine ⟨⟨rfl, .inr ⟨rfl, H2⟩⟩, ?_⟩
      show n - (n : Int).toNat < n - (0 : Int).toNat
      omega
    · have l1 : ¬ (n : Int) < (n : Int) := by omega
      go_wp2
      go_ret2
      exact ⟨rfl, HR.out⟩
theorem full27 {w0 w : World} {f r sb so len cap : Nat} {S : Nat → Int} {V : Nat → Value} {p : Nat} {x : Int} (h : RS w0 w f r sb so len cap S V p x) (off n c : Nat) (hp : p + n ≤ len) (hn : 0 < n) (ho : off + n ≤ 45) (hc : n ≤ c) (hc2 : c ≤ 1000000) (hl : len ≤ 1000000) (hcap : len ≤ cap) (hcap2 : cap ≤ 9223372036854775807) :
    Calls Tryd.prog 27 #[.iface 55 (.pointer (some ⟨r, 0, none⟩)), .slice (some ⟨f, off, none⟩) n c] w fun e w' => e = .returned (.tuple #[.int .i64 (n : Int), .nilIface]) ∧
      RS w0 w' f r sb so len cap S (upd V off n (fun j => .int .u8 (S (p + j)))) (p + n) (-1) := by
  have H := Lib.hid h
  clear h
  go_enter Tryd.func27, Tryd.ntmps27
  go_wp2_with (
    go_at_call 38
    refine Calls.mono (atleast38 H.out off n c hp hn ho hc hc2 hl hcap hcap2) ?_
    rintro e w2 ⟨rfl, h2⟩
    have H2 := Lib.hid h2
    clear h2)
  go_ret2
  exact ⟨rfl, H2.out⟩
theorem le28 (b o : Nat) (len cap : Nat) (x0 x1 x2 x3 : Int) (w : World) (hlen : 4 ≤ len)
    (c0 : w.cell? ⟨b, o, none⟩ = some (.int .u8 x0)) (c1 : w.cell? ⟨b, o + 1, none⟩ = some (.int .u8 x1)) (c2 : w.cell? ⟨b, o + 2, none⟩ = some (.int .u8 x2)) (c3 : w.cell? ⟨b, o + 3, none⟩ = some (.int .u8 x3))
    (b0 : 0 ≤ x0 ∧ x0 ≤ 255) (b1 : 0 ≤ x1 ∧ x1 ≤ 255) (b2 : 0 ≤ x2 ∧ x2 ≤ 255) (b3 : 0 ≤ x3 ∧ x3 ≤ 255) :
    Calls Tryd.prog 28 #[.slice (some ⟨b, o, none⟩) len cap] w fun e w' => e = .returned (.int .u32 (le4 x0 x1 x2 x3)) ∧ ∃ m, w' = w.drewN m := by
  have l3 : (3:Int) < len := by omega
  have l2 : (2:Int) < len := by omega
  have l1 : (1:Int) < len := by omega
  have l0' : 0 < len := by omega
  go_enter Tryd.func28, Tryd.ntmps28
  go_wp2
  go_quiet (fail)
  go_wp2
  go_ret
  exact ⟨rfl, _, rfl⟩
/-- four bytes as a number: 'le4' without its bits -/
theorem le4_num (x0 x1 x2 x3 : Int) (b0 : 0 ≤ x0 ∧ x0 ≤ 255) (b1 : 0 ≤ x1 ∧ x1 ≤ 255) (b2 : 0 ≤ x2 ∧ x2 ≤ 255) (b3 : 0 ≤ x3 ∧ x3 ≤ 255) : le4 x0 x1 x2 x3 = x0 + 256 * x1 + 65536 * x2 + 16777216 * x3 := by
  obtain ⟨a, rfl⟩ := Int.eq_ofNat_of_zero_le b0.1
  obtain ⟨b, rfl⟩ := Int.eq_ofNat_of_zero_le b1.1
  obtain ⟨c, rfl⟩ := Int.eq_ofNat_of_zero_le b2.1
  obtain ⟨d, rfl⟩ := Int.eq_ofNat_of_zero_le b3.1
  have hk : ∀ n : Int, 0 ≤ n → n < 2 ^ 32 → IntKind.u32.wrap n = n := by
    intro n h1 h2
    simp [IntKind.wrap, IntKind.bits, IntKind.signed]
    omega
  unfold le4
  have e1 : bits .or .u32 (a : Int) ((b : Int) * 256) = ((a + 256 * b : Nat) : Int) := by
    have e : ((b : Int) * 256) = ((2 ^ 8 * b : Nat) : Int) := by simp; omega
    rw [e, (bits_nat .u32 32 (by decide) hk a (2 ^ 8 * b) (by omega) (by omega)).2, Nat.or_comm, ← Nat.two_pow_add_eq_or_of_lt (show a < 2 ^ 8 by omega) b]
    congr 1
    omega
  rw [e1]
  have e2 : bits .or .u32 ((a + 256 * b : Nat) : Int) ((c : Int) * 65536) = ((a + 256 * b + 65536 * c : Nat) : Int) := by
    have e : ((c : Int) * 65536) = ((2 ^ 16 * c : Nat) : Int) := by simp; omega
    rw [e, (bits_nat .u32 32 (by decide) hk (a + 256 * b) (2 ^ 16 * c) (by omega) (by omega)).2, Nat.or_comm, ← Nat.two_pow_add_eq_or_of_lt (show a + 256 * b < 2 ^ 16 by omega) c]
    congr 1
    omega
  rw [e2]
  have e3 : bits .or .u32 ((a + 256 * b + 65536 * c : Nat) : Int) ((d : Int) * 16777216) = ((a + 256 * b + 65536 * c + 16777216 * d : Nat) : Int) := by
    have e : ((d : Int) * 16777216) = ((2 ^ 24 * d : Nat) : Int) := by simp; omega
    rw [e, (bits_nat .u32 32 (by decide) hk (a + 256 * b + 65536 * c) (2 ^ 24 * d) (by omega) (by omega)).2, Nat.or_comm, ← Nat.two_pow_add_eq_or_of_lt (show a + 256 * b + 65536 * c < 2 ^ 24 by omega) d]
    congr 1
    omega
  rw [e3]
  simp
theorem le30 (b o : Nat) (len cap : Nat) (x0 x1 : Int) (w : World) (hlen : 2 ≤ len)
    (c0 : w.cell? ⟨b, o, none⟩ = some (.int .u8 x0)) (c1 : w.cell? ⟨b, o + 1, none⟩ = some (.int .u8 x1)) (b0 : 0 ≤ x0 ∧ x0 ≤ 255) (b1 : 0 ≤ x1 ∧ x1 ≤ 255) :
    Calls Tryd.prog 30 #[.slice (some ⟨b, o, none⟩) len cap] w fun e w' => e = .returned (.int .u16 (bits .or .u16 x0 (x1 * 256))) ∧ ∃ m, w' = w.drewN m := by
  have l1 : (1:Int) < len := by omega
  have l0' : 0 < len := by omega
  go_enter Tryd.func30, Tryd.ntmps30
  go_wp2
  go_quiet (fail)
  go_wp2
  go_ret
  exact ⟨rfl, _, rfl⟩
theorem readU32 {w0 w : World} {f r sb so len cap : Nat} {S : Nat → Int} {V : Nat → Value} {p : Nat} {x : Int} (h : RS w0 w f r sb so len cap S V p x) (hp : p + 4 ≤ len) (hl : len ≤ 1000000) (hcap : len ≤ cap) (hcap2 : cap ≤ 9223372036854775807) (hS : ∀ i, 0 ≤ S i ∧ S i ≤ 255) :
    Calls Tryd.prog 22 #[.pointer (some ⟨f, 0, none⟩), .iface 55 (.pointer (some ⟨r, 0, none⟩))] w fun e w' => e = .returned (.tuple #[.int .u32 (le4 (S p) (S (p + 1)) (S (p + 2)) (S (p + 3))), .nilIface]) ∧
      RS w0 w' f r sb so len cap S (upd V 0 4 (fun j => .int .u8 (S (p + j)))) (p + 4) (-1) := by
  have H := Lib.hid h
  have HS := Lib.hid hS
  clear h hS
  have q := nil_neq
  go_enter Tryd.func22, Tryd.ntmps22
  go_wp2_with (first
    | (go_at_call 27
       refine Calls.mono (full27 H.out 0 4 15 hp (by omega) (by omega) (by omega) (by omega) hl hcap hcap2) ?_
       rintro e w2 ⟨rfl, h2⟩
       have H2 := Lib.hid h2
       clear h2)
    | (go_at_call 28
       refine Calls.mono (le28 f 0 4 15 (S p) (S (p + 1)) (S (p + 2)) (S (p + 3)) _ (by omega) (H2.out.fr.cell (j := 0) (by omega)) (H2.out.fr.cell (j := 1) (by omega)) (H2.out.fr.cell (j := 2) (by omega)) (H2.out.fr.cell (j := 3) (by omega)) (HS.out _) (HS.out _) (HS.out _) (HS.out _)) ?_
       rintro e w3 ⟨rfl, m, rfl⟩))
  go_ret2
  exact ⟨rfl, H2.out.drewN m⟩
end Go.Proofs.YtbadknelbdkpmaaDoor
