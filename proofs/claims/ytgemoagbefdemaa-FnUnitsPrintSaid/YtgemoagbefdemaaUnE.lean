/-
  Proved: what shift leaves for the exponents of ratios; what down and up return. Conditions: as told.
-/
import Derived.Test.YtgemoagbefdemaaUnC
import Derived.Test.YtgemoagbefdemaaUnD
import Derived.Deep.RegionLaw
import Derived.Deep.RegionHeld3
namespace Go.Proofs.Ytgemoagbefdemaa.UnE
open Go.RowKit Go.Proofs.YtgemoagbefdemaaW.PrintWords Go.Proofs.Ytgemoagbefdemaa.Common Go.Proofs.Ytgemoagbefdemaa.GEU Go.Proofs.Ytgemoagbefdemaa.UnB Go.Proofs.Ytgemoagbefdemaa.UnC
set_option linter.unusedVariables false
set_option linter.unusedSimpArgs false
set_option maxRecDepth 1000000
section
variable {B g : Nat} {w0 W W1 : World} {v : Value} {ds : List Int} {dp : Int}
theorem shift_c (h : D B w0 g v ds dp W) (hd : ∀ d ∈ ds, 0 ≤ d ∧ d ≤ 9) (hlen : ds.length ≤ 100) (hh : 1 ≤ ds.getD 0 0) (hdp : -1000 ≤ dp ∧ dp ≤ 1000) (k : Nat) (hk1 : 37 ≤ k) (hk2 : k ≤ 52) (F1 F2 i0 n0 : Nat) (out : List Int)
    (hp1 : ph1 k ds F1 0 0 = some (i0, n0)) (hp2 : ph2 k ds F2 i0 n0 [] = some out) (hF1 : F1 ≤ 200) (hF2 : F2 ≤ 300) (e : Int) (he : e = -(k : Int)) :
    Calls Try.prog 20 #[.pointer (some ⟨g, 0, none⟩), .int .i64 e] W fun e w' => e = .returned (.tuple #[]) ∧ ∃ v', D B w0 g v' (trim out) (tdp out (dp - (i0 - 1))) w' := by
  have HC := Aside0.mk (half_c h hd hlen hh hdp k hk1 hk2 F1 F2 i0 n0 out hp1 hp2 hF1 hF2)
  have c1 : decide (e > 59) = false := decide_eq_false (by omega)
  have c2 : decide (e < -59) = false := decide_eq_false (by omega)
  have c3 : decide (e > 0) = false := decide_eq_false (by omega)
  have c4 : decide (e < 0) = true := decide_eq_true (by omega)
  have c1' : decide (59 < e) = false := decide_eq_false (by omega)
  have c3' : decide (0 < e) = false := decide_eq_false (by omega)
  have c5 : -e = (k : Int) := by omega
  have c6 : IntKind.i64.wrap (-e) = (k : Int) := by rw [c5]; exact Go.IntWalk.i64_in _ (by omega)
  clear h hd hlen hh hp1 hp2 he hdp
  go_enter Try.func20, Try.ntmps20
  go_wp2
  go_loopg [1] 1 (fun gk v1 wr => v1 = .int .i64 e ∧ wr = W)
  case atStart => exact ⟨rfl, rfl⟩
  case round =>
    obtain ⟨rfl, rfl⟩ := hrel
    go_wp2
    go_loopg [1] 1 (fun gk v1 wr2 => v1 = .int .i64 e ∧ wr2 = wr)
    case atStart => exact ⟨rfl, rfl⟩
    case round =>
      obtain ⟨rfl, rfl⟩ := hrel
      go_wp2_with (go_at_call 27; refine (HC.out).mono ?_; rintro e w3 ⟨rfl, hv3⟩; have HV := Aside0.mk hv3; clear hv3)
      go_end0
      exact ⟨rfl, HV.out⟩
end
theorem R_zero {W : World} {b base : Nat} (h : W.heap[b]? = some (.cells #[] 5 (0, 0))) (hb : base ≤ b) : Kd.R (Kd.int .u8) 5 W base (fun _ => True) (.slice (some ⟨b, 0, none⟩) 0 0) [] :=
  ⟨fun _ _ => trivial, [], ⟨rfl, Or.inr ⟨b, 0, #[], rfl, hb, h, Nat.le_refl _, Nat.zero_le _, rfl, rfl⟩⟩, Reps.none _ _⟩
theorem app_step {ops : Array Oper} {o : Oper} {a : Act} {Q : Exit → Act → World → Prop} {Kc : Act → World → Prop} {B g : Nat} {w0 W W1 : World} {ds : List Int} {dp : Int} {A : Option Addr} {n c : Nat}
    (hw : Region.wanted o (yielded ops a.tmps) = true) (s x : Operand) (ho : o.op = .call { callee := .builtin .append, args := #[s, x], argTypes := #[50, 50] })
    (H : D B w0 g (.slice A n c) ds dp W) (hlen : ds.length ≤ 200) (b m : Nat) (hm : m ≤ ds.length) (hB : Below W.heap.size W W1) (hb : W1.heap[b]? = some (.cells #[] 5 (0, 0))) (hbb : W.heap.size ≤ b)
    (hs : a.eval s = .slice (some ⟨b, 0, none⟩) 0 0) (hx : a.eval x = .slice A m c)
    (h : ∀ A2 c2 w2, Kd.R (Kd.int .u8) 5 w2 W.heap.size (fun _ => True) (.slice A2 m c2) (ds.take m) → Below W.heap.size W w2 → W1.grownBy w2 (some b) → Kc (a.put o.dst (.slice A2 m c2)) w2) :
    if Region.wanted o (yielded ops a.tmps) = true then Oper.wp Try.prog o a W1 Kc Q else Kc (a.put o.dst undef) W1 := by
  have hr := Kd.R_reads' (Kd.R_take H.row hm)
  have hc := Kd.C_below hr.2.2 hB
  have htk : (ds.take m).length = m := by rw [List.length_take]; omega
  rw [htk] at hc
  refine Kd.R_append_rows_step (Kd.int .u8) (Rr := fun x cs => cs = [Value.int .u8 x]) (w0 := W) W.heap.size hw s x 50 5 (.int .u8 0) 1 ho Try.underlying50 info5 rfl (by decide) (by omega) _ [] (ds.take m) A m c (fun _ => True) (fun _ => False) hs hx (R_zero hb hbb) hc (fun _ _ hk => hk) (fun _ hk => hk.elim) (fun _ _ => trivial) hB hB.size (by simp; omega) ?_
  intro v1 w1 h1 h2 h3 h4
  obtain ⟨A2, c2, rfl⟩ := Kd.R_slice h1
  rw [List.nil_append, htk] at *
  exact h A2 c2 w1 h1 h2 h3
theorem at0 (W : World) (o1 o2 : Obj) : ((W.alloc o1).alloc o2).heap[W.heap.size]? = some o1 := by
  show ((W.heap.push o1).push o2)[W.heap.size]? = some o1
  simp [Array.getElem?_push]
theorem at1 (W : World) (o1 o2 : Obj) : ((W.alloc o1).alloc o2).heap[W.heap.size + 1]? = some o2 := by
  show ((W.heap.push o1).push o2)[W.heap.size + 1]? = some o2
  have h : W.heap.size + 1 = (W.heap.push o1).size := (Array.size_push _).symm
  rw [h]
  exact Array.getElem?_push_size
theorem two_size (W : World) (o1 o2 : Obj) : ((W.alloc o1).alloc o2).heap.size = W.heap.size + 2 := by
  show ((W.heap.push o1).push o2).size = _
  simp
theorem kept2 {W1 w2 : World} {b e : Nat} {Z : Obj} (hg : W1.grownBy w2 (some b)) (he : W1.heap[e]? = some Z) (hne : e ≠ b) : w2.heap[e]? = some Z :=
  (hg.block e (Array.getElem?_eq_some_iff.1 he).1 (fun h => hne (by injection h))).trans he
theorem zcells {w2 : World} {e : Nat} (he : w2.heap[e]? = some (.cells #[.slice none 0 0, .int .i64 0] 52 (0, 0))) : w2.cell? ⟨e, 0, none⟩ = some (.slice none 0 0) ∧ w2.cell? ⟨e, 1, none⟩ = some (.int .i64 0) ∧ w2.frozen? ⟨e, 0, none⟩ = false ∧ w2.frozen? ⟨e, 1, none⟩ = false :=
  ⟨(blk_cell he 0).trans rfl, (blk_cell he 1).trans rfl, by simp [World.frozen?, he], by simp [World.frozen?, he]⟩
theorem mk_out {B g e m c2 : Nat} {w0 W w2 : World} {vv : Value} {A2 : Option Addr} {ds l : List Int} {dp q : Int} (H : D B w0 g vv ds dp W) (hr : Kd.R (Kd.int .u8) 5 w2 W.heap.size (fun _ => True) (.slice A2 m c2) l) (hb : Below W.heap.size W w2) (hWe : W.heap.size ≤ e)
    (he : w2.heap[e]? = some (.cells #[.slice none 0 0, .int .i64 0] 52 (0, 0))) : D B w0 e (.slice A2 m c2) l q ((w2.setCell ⟨e, 0, none⟩ (.slice A2 m c2)).setCell ⟨e, 1, none⟩ (.int .i64 q)) := by
  have hB := H.size
  have h1 := set_cells w2 e 0 _ _ (.slice A2 m c2) he
  refine ⟨?_, Kd.R_set (Kd.R_set (Kd.R_lower hr hB) he five_ne 0 _) h1 five_ne 1 _, ((H.bel.trans (hb.mono hB)).setCell (by show B ≤ e; omega) _).setCell (by show B ≤ e; omega) _, by omega⟩
  rw [set_cells _ e 1 _ _ _ h1]
  rfl
theorem app_stepA {ops : Array Oper} {o : Oper} {a : Act} {Q : Exit → Act → World → Prop} {Kc : Act → World → Prop} {B g : Nat} {w0 W W1 : World} {ds : List Int} {dp : Int} {A : Option Addr} {n c : Nat}
    (hw : Region.wanted o (yielded ops a.tmps) = true) (s x : Operand) (ho : o.op = .call { callee := .builtin .append, args := #[s, x], argTypes := #[50, 50] })
    (H : D B w0 g (.slice A n c) ds dp W) (hlen : ds.length ≤ 200) (m : Nat) (hm : m ≤ ds.length) (hB : Below W.heap.size W W1) (hb : W1.heap[W.heap.size]? = some (.cells #[] 5 (0, 0)))
    (hs : a.eval s = .slice (some ⟨W.heap.size, 0, none⟩) 0 0) (hx : a.eval x = .slice A m c)
    (h : ∀ A2 c2 w2, Aside0 (Kd.R (Kd.int .u8) 5 w2 W.heap.size (fun _ => True) (.slice A2 m c2) (ds.take m)) → Aside0 (Below W.heap.size W w2) → w2.cell? ⟨g, 0, none⟩ = some (.slice A n c) → w2.cell? ⟨g, 1, none⟩ = some (.int .i64 dp) → w2.heap.size ≠ g → Kc (a.put o.dst (.slice A2 m c2)) w2) :
    if Region.wanted o (yielded ops a.tmps) = true then Oper.wp Try.prog o a W1 Kc Q else Kc (a.put o.dst undef) W1 := by
  have hgl := (Array.getElem?_eq_some_iff.1 H.blk).1
  refine app_step hw s x ho H hlen _ m hm hB hb (Nat.le_refl _) hs hx ?_
  intro A2 c2 w2 hr hb hg
  exact h A2 c2 w2 ⟨hr⟩ ⟨hb⟩ ((World.cell?_of_block (hb.block g hgl)).trans H.cells.1) ((World.cell?_of_block (hb.block g hgl)).trans H.cells.2.1) (Nat.ne_of_gt (Nat.lt_of_lt_of_le hgl hb.size))
theorem app_stepB {ops : Array Oper} {o : Oper} {a : Act} {Q : Exit → Act → World → Prop} {Kc : Act → World → Prop} {B g : Nat} {w0 W W1 : World} {ds : List Int} {dp : Int} {A : Option Addr} {n c : Nat}
    (hw : Region.wanted o (yielded ops a.tmps) = true) (s x : Operand) (ho : o.op = .call { callee := .builtin .append, args := #[s, x], argTypes := #[50, 50] })
    (H : D B w0 g (.slice A n c) ds dp W) (hlen : ds.length ≤ 200) (b e m : Nat) (hm : m ≤ ds.length) (hB : Below W.heap.size W W1) (hb : W1.heap[b]? = some (.cells #[] 5 (0, 0))) (hbb : W.heap.size ≤ b)
    (he : W1.heap[e]? = some (.cells #[.slice none 0 0, .int .i64 0] 52 (0, 0))) (hne : e ≠ b)
    (hs : a.eval s = .slice (some ⟨b, 0, none⟩) 0 0) (hx : a.eval x = .slice A m c)
    (h : ∀ A2 c2 w2, Aside0 (Kd.R (Kd.int .u8) 5 w2 W.heap.size (fun _ => True) (.slice A2 m c2) (ds.take m)) → Aside0 (Below W.heap.size W w2) → w2.cell? ⟨g, 0, none⟩ = some (.slice A n c) → w2.cell? ⟨g, 1, none⟩ = some (.int .i64 dp) → w2.heap.size ≠ g → Aside0 (w2.heap[e]? = some (.cells #[.slice none 0 0, .int .i64 0] 52 (0, 0))) →
      w2.cell? ⟨e, 0, none⟩ = some (.slice none 0 0) → w2.cell? ⟨e, 1, none⟩ = some (.int .i64 0) → w2.frozen? ⟨e, 0, none⟩ = false → w2.frozen? ⟨e, 1, none⟩ = false → Kc (a.put o.dst (.slice A2 m c2)) w2) :
    if Region.wanted o (yielded ops a.tmps) = true then Oper.wp Try.prog o a W1 Kc Q else Kc (a.put o.dst undef) W1 := by
  have hgl := (Array.getElem?_eq_some_iff.1 H.blk).1
  refine app_step hw s x ho H hlen _ m hm hB hb hbb hs hx ?_
  intro A2 c2 w2 hr hb hg
  have he2 := kept2 hg he hne
  obtain ⟨z0, z1, z2, z3⟩ := zcells he2
  exact h A2 c2 w2 ⟨hr⟩ ⟨hb⟩ ((World.cell?_of_block (hb.block g hgl)).trans H.cells.1) ((World.cell?_of_block (hb.block g hgl)).trans H.cells.2.1) (Nat.ne_of_gt (Nat.lt_of_lt_of_le hgl hb.size)) ⟨he2⟩ z0 z1 z2 z3
theorem mk_new {B g m c2 : Nat} {w0 W w2 : World} {vv : Value} {A2 : Option Addr} {ds l : List Int} {dp q : Int} (H : D B w0 g vv ds dp W) (hr : Kd.R (Kd.int .u8) 5 w2 W.heap.size (fun _ => True) (.slice A2 m c2) l) (hb : Below W.heap.size W w2) :
    D B w0 w2.heap.size (.slice A2 m c2) l q (w2.alloc (.cells #[.slice A2 m c2, .int .i64 q] 52 (0, 0))) := by
  have hB := H.size
  have hs := hb.size
  exact ⟨heap_alloc_new w2 _, Kd.R_below (Kd.R_lower hr hB) (below_alloc (Below.refl _ _) _), (H.bel.trans (hb.mono hB)).trans ((below_alloc (Below.refl w2.heap.size w2) _).mono (by omega)), by omega⟩
section
variable {B g : Nat} {w0 W W1 : World} {v : Value} {ds : List Int} {dp : Int}
set_option maxHeartbeats 8000000 in
theorem down_c (h : D B w0 g v ds dp W) (n : Nat) (hlen : ds.length ≤ 200) (hn : n < ds.length) :
    Calls Try.prog 28 #[.pointer (some ⟨g, 0, none⟩), .int .i64 (n : Int)] W fun e w' => ∃ g' v', e = .returned (.pointer (some ⟨g', 0, none⟩)) ∧ D B w0 g' v' (trim (ds.take n)) (tdp (ds.take n) dp) w' := by
  obtain ⟨g2, cap, rfl, hgb, hgl, X9, hty⟩ := Kd.R_form h.row (by omega)
  obtain ⟨h0, h1, f0, f1⟩ := h.cells
  have d1 : decide (ds.length ≤ n) = false := decide_eq_false (by omega)
  have hcap : n ≤ cap := by have := (Kd.R_reads' h.row).2.1; omega
  have hgl2 : g < W.heap.size := (Array.getElem?_eq_some_iff.1 h.blk).1
  have hmx : (if (n : Int) < 0 then 0 else (n : Int)) = n := if_neg (by omega)
  have hmx2 : ¬ (n : Int) < 0 := by omega
  have H := Aside0.mk h
  clear h
  go_enter Try.func28, Try.ntmps28
  go_wp2_with fail
  have hn1 := World.new_ne W ⟨g, 0, none⟩ h0
  have hn2 : W.heap.size + 1 ≠ g := by omega
  have hn3 : ¬ W.heap.size = g := hn1
  go_region_held3 (fun w' => w'.cell? ⟨g, 0, none⟩ = some (.slice (some ⟨g2, 0, none⟩) ds.length cap) ∧ w'.cell? ⟨g, 1, none⟩ = some (.int .i64 dp)) (go_keep) (first
    | (refine app_stepA (by simp [Region.wanted]) (.tmp 14) (.tmp 21) rfl H.out hlen n (by omega) (below_drew1 (below_alloc (Below.refl _ _) _)) (heap_alloc_new W _) (by simp [Act.eval, Act.put]) (by simp [Act.eval, Act.put]) ?_; intro A2 c2 w2 HR HB h10 h11 g12)
    | (refine app_stepB (by simp [Region.wanted]) (.tmp 14) (.tmp 21) rfl H.out hlen W.heap.size (W.heap.size + 1) n (by omega) (below_drew1 (below_alloc (below_alloc (Below.refl _ _) _) _)) (at0 W _ _) (Nat.le_refl _) (at1 W _ _) (Nat.succ_ne_self _) (by simp [Act.eval, Act.put]) (by simp [Act.eval, Act.put]) ?_; intro A2 c2 w2 HR HB h10 h11 g12 HE z0 z1 z2 z3)
    | (refine app_stepB (by simp [Region.wanted]) (.tmp 14) (.tmp 21) rfl H.out hlen (W.heap.size + 1) W.heap.size n (by omega) (below_drew1 (below_alloc (below_alloc (Below.refl _ _) _) _)) (at1 W _ _) (Nat.le_succ _) (at0 W _ _) (Nat.succ_ne_self _).symm (by simp [Act.eval, Act.put]) (by simp [Act.eval, Act.put]) ?_; intro A2 c2 w2 HR HB h10 h11 g12 HE z0 z1 z2 z3))
  all_goals (
    have HL : Aside0 ((ds.take n).length ≤ 1000) := ⟨by rw [List.length_take]; omega⟩
    first
      | have HT := Aside0.mk (trim_c (mk_out (q := dp) H.out HR.out HB.out (by first | exact Nat.le_refl _ | exact Nat.le_succ _) HE.out) HL.out)
      | have HT := Aside0.mk (trim_c (mk_new (q := dp) H.out HR.out HB.out) HL.out)
    clear hgb hgl hty h0 h1 f0 f1 hn1 hn2 hn3 hmx hmx2 h10 h11 g12
    go_wp2_with (go_at_call 25; refine (HT.out).mono ?_; rintro e w3 ⟨rfl, hv3⟩; have HV := Aside0.mk hv3; clear hv3)
    go_ret
    obtain ⟨v', hv⟩ := HV.out
    exact ⟨_, v', rfl, hv⟩)

end
end Go.Proofs.Ytgemoagbefdemaa.UnE
