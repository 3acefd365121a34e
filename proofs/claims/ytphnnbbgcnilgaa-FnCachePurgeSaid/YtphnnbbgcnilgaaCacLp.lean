/-
  Proved: the walk of the law FnCachePurge. Conditions: those of the given statement alone.
-/
import Derived.Test.YtphnnbbgcnilgaaCacO
import Derived.Test.YtphnnbbgcnilgaaOpen33
import Derived.Laws.CopyOwn
namespace Go.Proofs.Ytphnnbbgcnilgaa.CacLp
open Go Go.RowKit Go.Proofs.YtphnnbbgcnilgaaW.PrintWords Go.Proofs.Ytphnnbbgcnilgaa.Common Go.Proofs.Ytphnnbbgcnilgaa.CacS Go.Proofs.Ytphnnbbgcnilgaa.CacU Go.Proofs.Ytphnnbbgcnilgaa.CacV Go.Proofs.Ytphnnbbgcnilgaa.CacW Go.Proofs.Ytphnnbbgcnilgaa.CacY Go.Proofs.Ytphnnbbgcnilgaa.CacQ Go.Proofs.Ytphnnbbgcnilgaa.CacM Go.Proofs.Ytphnnbbgcnilgaa.CacO Go.Proofs.Ytphnnbbgcnilgaa.Read Go.Proofs.Ytphnnbbgcnilgaa.GFnCachePurge
set_option linter.unusedVariables false
set_option linter.unusedSimpArgs false
set_option maxRecDepth 1000000
theorem at42 {w : World} {A : Option Addr} {n : Nat} {xs : List S42} (h : Kd.C k42 w A n xs) (t : Nat) (h1 : t < n) : ∃ ad A5 c5, A = some ad ∧ w.cell? (ad.add (t * 6)) = some (.bool (xs.getD t z42).f0) ∧ w.cell? ⟨(ad.add (t * 6)).block, (ad.add (t * 6)).off + 1, none⟩ = some (.int .i64 (xs.getD t z42).f1) ∧ w.cell? ⟨(ad.add (t * 6)).block, (ad.add (t * 6)).off + 2, none⟩ = some (.int .i64 (xs.getD t z42).f2) ∧ w.cell? ⟨(ad.add (t * 6)).block, (ad.add (t * 6)).off + 3, none⟩ = some (.float .f64 (xs.getD t z42).f3) ∧ w.cell? ⟨(ad.add (t * 6)).block, (ad.add (t * 6)).off + 4, none⟩ = some (.bool (xs.getD t z42).f4) ∧ w.cell? ⟨(ad.add (t * 6)).block, (ad.add (t * 6)).off + 5, none⟩ = some (.slice A5 (xs.getD t z42).f5.length c5) ∧ kpair.C w A5 (xs.getD t z42).f5.length (xs.getD t z42).f5 := by
  obtain ⟨ad, c, e, _, hK, hc0⟩ := Kd.C_get h z42 (t : Int) (by omega) (by omega)
  rw [Int.toNat_natCast] at hK hc0
  obtain ⟨A5, c5, rfl, _, hC⟩ := k42_open hK
  have hc : ∀ j u, _ → w.cell? (ad.add (t * 6 + j)) = some u := hc0
  refine ⟨ad, A5, c5, e, hc 0 _ rfl, ?_, ?_, ?_, ?_, ?_, hC⟩
  · rw [← add_field _ _ 1 (by omega)]; exact hc 1 _ rfl
  · rw [← add_field _ _ 2 (by omega)]; exact hc 2 _ rfl
  · rw [← add_field _ _ 3 (by omega)]; exact hc 3 _ rfl
  · rw [← add_field _ _ 4 (by omega)]; exact hc 4 _ rfl
  · rw [← add_field _ _ 5 (by omega)]; exact hc 5 _ rfl
/-- a result's cells in a row -/
def YF (w : World) (ad : Addr) (i : Nat) (x0 : Bool) (x1 x2 : Int) (x3 : Nat) (x4 : Bool) (A : Option Addr) (n c : Nat) : Prop :=
  w.cell? (ad.add (i * 6)) = some (.bool x0) ∧ w.cell? ⟨(ad.add (i * 6)).block, (ad.add (i * 6)).off + 1, none⟩ = some (.int .i64 x1) ∧ w.cell? ⟨(ad.add (i * 6)).block, (ad.add (i * 6)).off + 2, none⟩ = some (.int .i64 x2) ∧ w.cell? ⟨(ad.add (i * 6)).block, (ad.add (i * 6)).off + 3, none⟩ = some (.float .f64 x3) ∧ w.cell? ⟨(ad.add (i * 6)).block, (ad.add (i * 6)).off + 4, none⟩ = some (.bool x4) ∧ w.cell? ⟨(ad.add (i * 6)).block, (ad.add (i * 6)).off + 5, none⟩ = some (.slice A n c)
theorem YF.below {w W : World} {ad : Addr} {i : Nat} {x0 : Bool} {x1 x2 : Int} {x3 : Nat} {x4 : Bool} {A : Option Addr} {n c : Nat} (h : YF w ad i x0 x1 x2 x3 x4 A n c) (hb : Below w.heap.size w W) : YF W ad i x0 x1 x2 x3 x4 A n c := by
  obtain ⟨h0, h1, h2, h3, h4, h5⟩ := h
  have hl : (ad.add (i * 6)).block < w.heap.size := World.block_lt_of_cell? w _ h0
  have hc : ∀ j, W.cell? ⟨(ad.add (i * 6)).block, (ad.add (i * 6)).off + j, none⟩ = w.cell? ⟨(ad.add (i * 6)).block, (ad.add (i * 6)).off + j, none⟩ := fun j => hb.cell hl
  exact ⟨(hb.cell hl).trans h0, (hc 1).trans h1, (hc 2).trans h2, (hc 3).trans h3, (hc 4).trans h4, (hc 5).trans h5⟩
theorem _root_.Go.Proofs.Ytphnnbbgcnilgaa.CacO.Pair.parts {d : Int} {x y : S42} (h : Pair d x y) : ∃ x0 x1 x2 x3 x4 X5 Y5, x = ⟨x0, x1, x2, x3, x4, X5⟩ ∧ y = ⟨x0, x1, x2, x3, x4, Y5⟩ ∧ Ieee.double.order x3 x3 = some .eq ∧ Y5.length ≤ 1000 ∧ ((d = 5 ∧ X5.Perm Y5 ∧ Y5.Nodup) ∨ (d ≠ 5 ∧ X5 = Y5)) := by
  rcases h with ⟨h5, G, H, rfl, rfl, hp, hn, hl⟩ | ⟨h5, rfl, ho, hl⟩
  · exact ⟨_, _, _, _, _, _, _, rfl, rfl, CacF.order_self 0 (by decide), hl, Or.inl ⟨h5, hp, hn⟩⟩
  · exact ⟨_, _, _, _, _, _, _, rfl, rfl, ho, hl, Or.inr ⟨h5, rfl⟩⟩
theorem byte_wf {x : Int} (h : (Lit.int .u8 x).wf = true) : 0 ≤ x ∧ x < 256 := by
  have h2 : IntKind.u8.min ≤ x ∧ x ≤ IntKind.u8.max := by simpa [Lit.wf] using h
  have e1 : IntKind.u8.min = 0 := by decide
  have e2 : IntKind.u8.max = 255 := by decide
  omega
theorem info33 : (Try.prog.info? 33).map (fun i => (i.zero, i.size, i.bytes)) = some (some (.agg #[.int .i64 0, .int .i64 0, .int .i64 0]), k33.sz, 24) := by kernel_rfl
theorem k33M {w w1 : World} {base : Nat} {ok : Nat → Prop} {x : S33} {cs : List Value} (h : k33.K w x cs) : k33.M w1 base ok x cs := by
  rw [k33_open h]; exact k33_mkM _ _ _ _
theorem script_ok {l1 l2 : List S33} (h1 : few l1 = true) (h2 : few l2 = true) (g1 : ∀ x ∈ l1, good33 x) (g2 : ∀ x ∈ l2, good33 x) : ∀ x ∈ l1 ++ [⟨5, 0, 0⟩] ++ l2, (0 ≤ x.f0 ∧ x.f0 ≤ 8) ∧ (Lit.int .i64 x.f1).wf = true := by
  intro x hx
  rcases List.mem_append.1 hx with hx | hx
  · rcases List.mem_append.1 hx with hx | hx
    · exact ⟨few_ok h1 x hx, (g1 x hx).2.1⟩
    · obtain rfl := List.mem_singleton.1 hx
      exact ⟨by decide, by decide⟩
  · exact ⟨few_ok h2 x hx, (g2 x hx).2.1⟩
theorem script_len {l1 l2 : List S33} (h : l1.length + l2.length ≤ 300) : (l1 ++ [(⟨5, 0, 0⟩ : S33)] ++ l2).length ≤ 400 := by
  simp; omega
set_option maxHeartbeats 4000000 in
theorem law2 (w : World) (a0 : Int) (w0 : (Lit.int .u8 a0).wf = true) (A1 : Option Addr) (c1 : Nat) (l1 : List S33) (hc1 : l1.length ≤ c1) (hr1 : Kd.C k33 w A1 l1.length l1) (hg1 : ∀ x ∈ l1, good33 x) (A2 : Option Addr) (c2 : Nat) (l2 : List S33) (hc2 : l2.length ≤ c2) (hr2 : Kd.C k33 w A2 l2.length l2) (hg2 : ∀ x ∈ l2, good33 x) (hf1 : few l1 = true) (hf2 : few l2 = true) (hsum : ¬ 300 < l1.length + l2.length) :
    Calls Try.prog 5 #[.int .u8 a0, .slice A1 l1.length c1, .slice A2 l2.length c2] w fun e w' => e = .returned (.bool true) ∧ Below w.heap.size w w' := by
  have HR1 := Aside0.mk hr1
  have HR2 := Aside0.mk hr2
  have HG1 := Aside0.mk hg1
  have HG2 := Aside0.mk hg2
  have HF1 := Aside0.mk hf1
  have HF2 := Aside0.mk hf2
  obtain ⟨h00, h01⟩ := byte_wf w0
  have hb1 : ¬ 2147483647 < l1.length := by omega
  have hb2 : ¬ 2147483647 < l2.length := by omega
  have HF1c := Aside0.mk (few_c l1 (by omega) HR1.out (c := c1))
  have HF2c := Aside0.mk (few_c l2 (by omega) HR2.out (c := c2))
  have hd1 : decide ((l1.length : Int) > 2147483647) = false := decide_eq_false (by omega)
  have hd2 : decide ((l2.length : Int) > 2147483647) = false := decide_eq_false (by omega)
  clear hr1 hr2 hg1 hg2 hf1 hf2
  have hd3 : decide ((l1.length : Int) + (l2.length : Int) > 300) = false := decide_eq_false (by omega)
  have HSUM : Aside0 (l1.length + l2.length ≤ 300) := ⟨by omega⟩
  obtain ⟨N, hN⟩ : ∃ N : Nat, (1 + a0 % 40 : Int) = (N : Int) := ⟨(1 + a0 % 40).toNat, by omega⟩
  have HN0 : Aside0 (0 < (N : Int)) := ⟨by omega⟩
  have HN1 : Aside0 ((N : Int) ≤ 40) := ⟨by omega⟩
  go_enter Try.func5, Try.ntmps5
  go_wp2_with (first
    | (go_at_call 15; with_reducible refine HF1c.out.mono ?_; rintro e w3 ⟨he, hw3⟩; rw [HF1.out] at he; subst he; have hw4 := hw3.symm; subst hw4)
    | (go_at_call 15; with_reducible refine HF2c.out.mono ?_; rintro e w3 ⟨he, hw3⟩; rw [HF2.out] at he; subst he; have hw4 := hw3.symm; subst hw4)
    | ((with_reducible refine gate_dst (N := 44) rfl ?_); refine Kd.R_lit (w0 := w) k33 w.heap.size 33 ?hg (N := 44) ?hd (xs := ([] : List S33)) (inner := []) (ok := fun _ => True) (okp := fun _ => True) ?hr ?hp (fun _ hk => hk) trivial (Below.refl _ _) (Nat.le_refl _) (by simp) ?_; (case hd => rfl); (case hg => rfl); (case hr => first | (go_simp; done) | (go_simp; rfl)); (case hp => exact Reps.none _ _); intro v0 w0' ho hb hg hnew; have H0 := Aside0.mk ho; have B0 := Aside0.mk hb; clear ho hb hg hnew)
    | ((with_reducible refine gate_builtin (b := .append) (xs := #[.tmp 44, .tmp 45]) rfl ?_); at_builtin; refine Kd.R_append_rows (Rr := k33.K w0') k33 (w0 := w) w.heap.size rfl (.tmp 44) (.tmp 45) 31 33 (.agg #[.int .i64 0, .int .i64 0, .int .i64 0]) 24 rfl Try.underlying31 info33 rfl (by decide) (by omega) v0 ([] : List S33) l1 A1 l1.length c1 (fun _ => True) (fun _ => False) rfl rfl ?aO ?aR (fun x cs h => k33M (x := x) h) (fun _ h => h.elim) ?aF ?aB ?aS ?aL ?_; (case aR => exact Kd.C_below HR1.out (B0.out)); (case aF => exact (fun _ _ => trivial)); (case aO => exact H0.out); (case aB => exact B0.out); (case aS => exact B0.out.size); (case aL => simp; omega); intro va wa ho hb hg hat; have H1 := Aside0.mk (show k33.R 33 wa w.heap.size (fun _ => True) va l1 from ho); have B1 := Aside0.mk hb; clear ho hb hg hat)
    | ((with_reducible refine gate_builtin (b := .append) (xs := #[.tmp 46, .tmp 48]) rfl ?_); at_builtin; refine Kd.R_append k33 (w0 := w) w.heap.size rfl (.tmp 46) (.tmp 48) 31 33 (.agg #[.int .i64 0, .int .i64 0, .int .i64 0]) 24 rfl Try.underlying31 info33 rfl (by decide) (by omega) va l1 (⟨5, 0, 0⟩ : S33) [.int .i64 5, .int .i64 0, .int .i64 0] (fun _ => True) (fun _ => False) rfl rfl ?aP (fun _ hk => hk.elim) ?aF ?aO ?aB ?aS ?aL ?_; (case aP => exact k33_mkM _ _ _ _); (case aF => exact (fun _ _ => trivial)); (case aO => exact H1.out); (case aB => exact B1.out); (case aS => exact B1.out.size); (case aL => omega); intro vb wb ho hb hg hat; have H2 := Aside0.mk ho; have B2 := Aside0.mk hb; clear ho hb hg hat)
    | ((with_reducible refine gate_builtin (b := .append) (xs := #[.tmp 49, .tmp 50]) rfl ?_); at_builtin; refine Kd.R_append_rows (Rr := k33.K wb) k33 (w0 := w) w.heap.size rfl (.tmp 49) (.tmp 50) 31 33 (.agg #[.int .i64 0, .int .i64 0, .int .i64 0]) 24 rfl Try.underlying31 info33 rfl (by decide) (by omega) vb (l1 ++ [⟨5, 0, 0⟩]) l2 A2 l2.length c2 (fun _ => True) (fun _ => False) rfl rfl ?aO ?aR (fun x cs h => k33M (x := x) h) (fun _ h => h.elim) ?aF ?aB ?aS ?aL ?_; (case aR => exact Kd.C_below HR2.out (B2.out)); (case aF => exact (fun _ _ => trivial)); (case aO => exact H2.out); (case aB => exact B2.out); (case aS => exact B2.out.size); (case aL => simp; omega); intro vc wc ho hb hg hat; (obtain ⟨S, hS⟩ : ∃ S, S = l1 ++ [(⟨5, 0, 0⟩ : S33)] ++ l2 := ⟨_, rfl⟩); rw [← hS] at ho; obtain ⟨A3, c3, rfl, _, hC3⟩ := Kd.R_reads ho; have HS := Aside0.mk hS; have H3 := Aside0.mk hC3; have B3 := Aside0.mk hb; clear hS hC3; clear ho hb hg hat)
    | (go_at_call 13; have hso : ∀ x ∈ S, (0 ≤ x.f0 ∧ x.f0 ≤ 8) ∧ (Lit.int .i64 x.f1).wf = true := (by rw [HS.out]; exact script_ok HF1.out HF2.out HG1.out HG2.out); have hsl : S.length ≤ 400 := (by rw [HS.out]; exact script_len HSUM.out); with_reducible refine (run_e (n := (N : Int)) HN0.out HN1.out S hso hsl A3 c3 wc H3.out).mono ?_; clear hso hsl; rintro e w5 ⟨v5, X, sX, rfl, hX, ho, hb⟩; obtain ⟨A4, c4, rfl, _, hC4⟩ := Kd.R_reads ho; have HX := Aside0.mk hX; have H4 := Aside0.mk hC4; have B4 := Aside0.mk (B3.out.trans (hb.mono B3.out.size)); clear hX ho hb hC4)
    | (go_at_call 13; have hso : ∀ x ∈ l2, (0 ≤ x.f0 ∧ x.f0 ≤ 8) ∧ (Lit.int .i64 x.f1).wf = true := (fun x hx => ⟨few_ok HF2.out x hx, (HG2.out x hx).2.1⟩); have hsl : l2.length ≤ 400 := (by have := HSUM.out; omega); with_reducible refine (run_e (n := (N : Int)) HN0.out HN1.out l2 hso hsl A2 c2 w5 (Kd.C_below HR2.out (B4.out))).mono ?_; clear hso hsl; rintro e w7 ⟨v7, Y, sY, rfl, hY, ho, hb⟩; obtain ⟨A6, c6, rfl, _, hC6⟩ := Kd.R_reads ho; have HY := Aside0.mk hY; have H6 := Aside0.mk hC6; have H4b := Aside0.mk (Kd.C_below H4.out hb); have B7 := Aside0.mk (B4.out.trans (hb.mono B4.out.size)); obtain ⟨e1, e2, e3⟩ := law_pair (by rw [← HS.out]; exact HX.out) hY HSUM.out; have HPR := Aside0.mk e3; have HYL := Aside0.mk e2; have HXL := Aside0.mk e1; have hbx : ((X.length : Int) != (l1.length : Int) + 1 + (l2.length : Int)) = false := (by rw [e1]; simp); have hby : ((Y.length : Int) != (l2.length : Int)) = false := (by rw [e2]; simp); clear hY ho hb hC6 e1 e2 e3))
  go_loopw [12] (fun i wr => ∃ (q : Nat), Value.int .i64 (q : Int) = i ∧ q ≤ l2.length ∧ Aside0 (Below w7.heap.size w7 wr)) (fun i _ => l2.length - (intOf i).toNat)
  case atStart => exact ⟨0, rfl, by omega, ⟨Below.refl _ _⟩⟩
  case round =>
    obtain ⟨i, rfl, hq, HB⟩ := hrel
    have hYL := HYL.out
    by_cases hlt : i < l2.length
    · have hdi : decide ((i : Int) < (Y.length : Int)) = true := decide_eq_true (by omega)
      have hiY : (i : Int) < (Y.length : Int) := by omega
      have hiY2 : i < Y.length := by omega
      have hi2 : (i : Int) < (l2.length : Int) := by omega
      obtain ⟨t, ht⟩ : ∃ t : Nat, t = l1.length + 1 + i := ⟨_, rfl⟩
      have hti : (l1.length : Int) + 1 + (i : Int) = (t : Int) := by omega
      have htX2 : t < X.length := by rw [HXL.out]; omega
      have htX : (t : Int) < (X.length : Int) := by omega
      have hP := HPR.out i hlt
      rw [← ht] at hP
      obtain ⟨x0, x1, x2, x3, x4, X5, Y5, eX, eY, hor, hy5, hcase⟩ := hP.parts
      obtain ⟨adx, A8, c8, rfl, s0, s1, s2, s3, s4, s5, cx⟩ := at42 H4b.out t htX2
      obtain ⟨ady, A9, c9, rfl, y0, y1, y2, y3, y4, y5, cy⟩ := at42 H6.out i hiY2
      rw [eX] at s0 s1 s2 s3 s4 s5 cx
      rw [eY] at y0 y1 y2 y3 y4 y5 cy
      dsimp only at s0 s1 s2 s3 s4 s5 cx y0 y1 y2 y3 y4 y5 cy
      have HYF : Aside0 (YF w7 ady i x0 x1 x2 x3 x4 A9 Y5.length c9) := ⟨⟨y0, y1, y2, y3, y4, y5⟩⟩
      have HXF : Aside0 (YF w7 adx t x0 x1 x2 x3 x4 A8 X5.length c8) := ⟨⟨s0, s1, s2, s3, s4, s5⟩⟩
      have CX := Aside0.mk cx
      have CY := Aside0.mk cy
      have HOR := Aside0.mk hor
      clear s0 s1 s2 s3 s4 s5 y0 y1 y2 y3 y4 y5 cx cy eX eY hP hor ht hYL
      obtain ⟨s0, s1, s2, s3, s4, s5⟩ := HXF.out.below HB.out
      obtain ⟨ado, e2, hd0, _⟩ := at_T33 HR2.out (i : Int) (by omega) (by omega)
      subst e2
      rw [Int.toNat_natCast, rd33 l2 i hlt] at hd0
      replace hd0 := (B7.out.cell (World.block_lt_of_cell? w _ hd0)).trans hd0
      have hd9 := (HB.out.cell (World.block_lt_of_cell? w7 _ hd0)).trans hd0
      have HCS := Aside0.mk hcase
      generalize l2[i].f0 = d at *
      clear hcase
      by_cases h5 : d = 5
      · subst h5
        have HPM : Aside0 (X5.Perm Y5 ∧ Y5.Nodup) := ⟨by
          rcases HCS.out with h | h
          · exact h.2
          · exact absurd rfl h.1⟩
        have HY5 := Aside0.mk hy5
        clear hy5
        go_wp2_with (first
          | ((with_reducible refine gate_dst (N := 13) rfl ?_); (try (refine gate_guard (by rfl) ?_; dsimp only)); refine box_event ?hg (N := 13) ?hd (cs := #[.bool false, .int .i64 0, .int .i64 0, .float .f64 0, .bool false, .slice none 0 0]) (t := 42) ?hr ?_; (case hd => rfl); (case hg => rfl); (case hr => first | (go_simp; done) | (go_simp; rfl)); intro go hgo w8 hb1 hB1; have X1 := Aside0.mk hb1; have X2 := Aside0.mk hB1; have X3 := Aside0.mk hgo; clear hgo hb1 hB1)
          | ((with_reducible refine gate_store (t := 42) (p := 13) rfl ?_); refine row_event (ty := 42) (p := 13) (v := ?vo_13) ?hg ?ho ?hn go #[.bool x0, .int .i64 x1, .int .i64 x2, .float .f64 x3, .bool x4, .slice A8 X5.length c8] ?hx ?hy 42 #[.bool false, .int .i64 0, .int .i64 0, .float .f64 0, .bool false, .slice none 0 0] ?hh ?hi ?hs ?h1 ?_; (case ho => rfl); (case hg => rfl); (case hn => rfl); (case hx => rfl); (case hy => rfl); (case hi => kernel_rfl); (case hs => rfl); (case h1 => first | kernel_rfl | (simp [Value.oneCell']; done)); (case hh => exact X1.out); intro w9 hw; have HGO : Aside0 (w9.heap[go]? = some (.cells #[.bool x0, .int .i64 x1, .int .i64 x2, .float .f64 x3, .bool x4, .slice A8 X5.length c8] 42 (0, 0))) := ⟨by rw [hw]; exact setRow_heap _ _ _ _ _ _ X1.out⟩; have HB9 : Aside0 (Below wr.heap.size wr w9) := ⟨by rw [hw]; exact below_setRow X2.out (Nat.le_of_eq X3.out.symm) _⟩; have HGL : Aside0 (wr.heap.size ≤ go) := ⟨Nat.le_of_eq X3.out.symm⟩; have HB97 : Aside0 (Below w7.heap.size w7 w9) := ⟨HB.out.trans (HB9.out.mono HB.out.size)⟩; have u0 : w9.cell? ⟨go, 0, none⟩ = some (.bool x0) := (blk_cell HGO.out 0).trans rfl; have u1 : w9.cell? ⟨go, 1, none⟩ = some (.int .i64 x1) := (blk_cell HGO.out 1).trans rfl; have u2 : w9.cell? ⟨go, 2, none⟩ = some (.int .i64 x2) := (blk_cell HGO.out 2).trans rfl; have u3 : w9.cell? ⟨go, 3, none⟩ = some (.float .f64 x3) := (blk_cell HGO.out 3).trans rfl; have u4 : w9.cell? ⟨go, 4, none⟩ = some (.bool x4) := (blk_cell HGO.out 4).trans rfl; have u5 : w9.cell? ⟨go, 5, none⟩ = some (.slice A8 X5.length c8) := (blk_cell HGO.out 5).trans rfl; obtain ⟨z0, z1, z2, z3, z4, z5⟩ := HYF.out.below HB97.out; have o0 := (HB97.out.cell (World.block_lt_of_cell? w7 _ hd0)).trans hd0; clear hw X1 X2 X3))
        go_still_tail 7, (by kernel_rfl)
        go_wp2_with (first
          | (go_at_call 16; refine (purged_c X5 Y5 HPM.out.1 HPM.out.2 HY5.out (Kd.C_below CX.out (HB97.out.drew)) (Kd.C_below CY.out (HB97.out.drew))).mono ?_; rintro e w10 ⟨rfl, nd, hw10⟩; clear u0 u1 u2 u3 u4 u5 z0 z1 z2 z3 z4 z5; have HG10 : Aside0 (w10.heap[go]? = some (.cells #[.bool x0, .int .i64 x1, .int .i64 x2, .float .f64 x3, .bool x4, .slice A8 X5.length c8] 42 (0, 0))) := ⟨by rw [hw10]; exact HGO.out⟩; have HB10 : Aside0 (Below w7.heap.size w7 w10) := ⟨by rw [hw10]; exact pw_below_drewN HB97.out.drew _⟩; have hfz := blk_frozen HG10.out 5; have u0 : w10.cell? ⟨go, 0, none⟩ = some (.bool x0) := (blk_cell HG10.out 0).trans rfl; have u1 : w10.cell? ⟨go, 1, none⟩ = some (.int .i64 x1) := (blk_cell HG10.out 1).trans rfl; have u2 : w10.cell? ⟨go, 2, none⟩ = some (.int .i64 x2) := (blk_cell HG10.out 2).trans rfl; have u3 : w10.cell? ⟨go, 3, none⟩ = some (.float .f64 x3) := (blk_cell HG10.out 3).trans rfl; have u4 : w10.cell? ⟨go, 4, none⟩ = some (.bool x4) := (blk_cell HG10.out 4).trans rfl; have u5 : w10.cell? ⟨go, 5, none⟩ = some (.slice A8 X5.length c8) := (blk_cell HG10.out 5).trans rfl; obtain ⟨z0, z1, z2, z3, z4, z5⟩ := HYF.out.below HB10.out; clear hw10)
          | ((with_reducible refine gate_store (t := 40) (p := 119) rfl ?_); refine store_event (t := 40) (p := 119) (v := ?vo_119) (w1 := (w10.setCell ⟨go, 5, none⟩ (.slice A9 Y5.length c9))) ?hg ?ho ?hn ?hr ?_; (case ho => rfl); (case hg => rfl); (case hn => rfl); (case hr => first | (go_simp; done) | (go_simp; rfl)); intro w11 hw; clear u0 u1 u2 u3 u4 u5 z0 z1 z2 z3 z4 z5 hfz; have HG11 : Aside0 (w11.heap[go]? = some (.cells #[.bool x0, .int .i64 x1, .int .i64 x2, .float .f64 x3, .bool x4, .slice A9 Y5.length c9] 42 (0, 0))) := ⟨by rw [hw]; exact (CacA.set_blk _ _ _ _ _ _ HG10.out).trans rfl⟩; have HB11 : Aside0 (Below w7.heap.size w7 w11) := ⟨by rw [hw]; exact HB10.out.setCell (Nat.le_trans HB.out.size HGL.out) _⟩; have u0 : w11.cell? ⟨go, 0, none⟩ = some (.bool x0) := (blk_cell HG11.out 0).trans rfl; have u1 : w11.cell? ⟨go, 1, none⟩ = some (.int .i64 x1) := (blk_cell HG11.out 1).trans rfl; have u2 : w11.cell? ⟨go, 2, none⟩ = some (.int .i64 x2) := (blk_cell HG11.out 2).trans rfl; have u3 : w11.cell? ⟨go, 3, none⟩ = some (.float .f64 x3) := (blk_cell HG11.out 3).trans rfl; have u4 : w11.cell? ⟨go, 4, none⟩ = some (.bool x4) := (blk_cell HG11.out 4).trans rfl; have u5 : w11.cell? ⟨go, 5, none⟩ = some (.slice A9 Y5.length c9) := (blk_cell HG11.out 5).trans rfl; obtain ⟨z0, z1, z2, z3, z4, z5⟩ := HYF.out.below HB11.out; clear hw))
        go_still_tail 5, (by kernel_rfl)
        go_wp2_with (first
          | (go_at_call 17; refine (same_c x0 x4 x1 x2 x3 Y5 HOR.out HY5.out (Kd.C_below CY.out HB11.out.drew) (Kd.C_below CY.out HB11.out.drew)).mono ?_; rintro e w12 ⟨rfl, hb12⟩; have HB12 : Aside0 (Below w7.heap.size w7 w12) := ⟨HB11.out.drew.trans (hb12.mono HB11.out.size)⟩; clear hb12))
        go_roundw
        case rel => exact ⟨i + 1, by go_num, by omega, HB12⟩
        case measure => simp [intOf]; omega
      · have hd5 : decide (d = 5) = false := decide_eq_false h5
        have hd5b : (d == 5) = false := by simpa using h5
        have e5 : X5 = Y5 := by
          rcases HCS.out with h | h
          · exact absurd h.1 h5
          · exact h.2
        subst e5
        have HY5 := Aside0.mk hy5
        clear hy5 h5 HCS
        go_wp2_with (first
          | ((with_reducible refine gate_dst (N := 13) rfl ?_); (try (refine gate_guard (by rfl) ?_; dsimp only)); refine box_event ?hg (N := 13) ?hd (cs := #[.bool false, .int .i64 0, .int .i64 0, .float .f64 0, .bool false, .slice none 0 0]) (t := 42) ?hr ?_; (case hd => rfl); (case hg => rfl); (case hr => first | (go_simp; done) | (go_simp; rfl)); intro go hgo w8 hb1 hB1; have X1 := Aside0.mk hb1; have X2 := Aside0.mk hB1; have X3 := Aside0.mk hgo; clear hgo hb1 hB1)
          | ((with_reducible refine gate_store (t := 42) (p := 13) rfl ?_); refine row_event (ty := 42) (p := 13) (v := ?vo_13) ?hg ?ho ?hn go #[.bool x0, .int .i64 x1, .int .i64 x2, .float .f64 x3, .bool x4, .slice A8 X5.length c8] ?hx ?hy 42 #[.bool false, .int .i64 0, .int .i64 0, .float .f64 0, .bool false, .slice none 0 0] ?hh ?hi ?hs ?h1 ?_; (case ho => rfl); (case hg => rfl); (case hn => rfl); (case hx => rfl); (case hy => rfl); (case hi => kernel_rfl); (case hs => rfl); (case h1 => first | kernel_rfl | (simp [Value.oneCell']; done)); (case hh => exact X1.out); intro w9 hw; have HGO : Aside0 (w9.heap[go]? = some (.cells #[.bool x0, .int .i64 x1, .int .i64 x2, .float .f64 x3, .bool x4, .slice A8 X5.length c8] 42 (0, 0))) := ⟨by rw [hw]; exact setRow_heap _ _ _ _ _ _ X1.out⟩; have HB9 : Aside0 (Below wr.heap.size wr w9) := ⟨by rw [hw]; exact below_setRow X2.out (Nat.le_of_eq X3.out.symm) _⟩; have HGL : Aside0 (wr.heap.size ≤ go) := ⟨Nat.le_of_eq X3.out.symm⟩; have HB97 : Aside0 (Below w7.heap.size w7 w9) := ⟨HB.out.trans (HB9.out.mono HB.out.size)⟩; have u0 : w9.cell? ⟨go, 0, none⟩ = some (.bool x0) := (blk_cell HGO.out 0).trans rfl; have u1 : w9.cell? ⟨go, 1, none⟩ = some (.int .i64 x1) := (blk_cell HGO.out 1).trans rfl; have u2 : w9.cell? ⟨go, 2, none⟩ = some (.int .i64 x2) := (blk_cell HGO.out 2).trans rfl; have u3 : w9.cell? ⟨go, 3, none⟩ = some (.float .f64 x3) := (blk_cell HGO.out 3).trans rfl; have u4 : w9.cell? ⟨go, 4, none⟩ = some (.bool x4) := (blk_cell HGO.out 4).trans rfl; have u5 : w9.cell? ⟨go, 5, none⟩ = some (.slice A8 X5.length c8) := (blk_cell HGO.out 5).trans rfl; obtain ⟨z0, z1, z2, z3, z4, z5⟩ := HYF.out.below HB97.out; have o0 := (HB97.out.cell (World.block_lt_of_cell? w7 _ hd0)).trans hd0; clear hw X1 X2 X3))
        go_still_tail 5, (by kernel_rfl)
        go_wp2_with (first
          | (go_at_call 17; refine (same_c x0 x4 x1 x2 x3 X5 HOR.out HY5.out (Kd.C_below CX.out HB97.out.drew) (Kd.C_below CY.out HB97.out.drew)).mono ?_; rintro e w12 ⟨rfl, hb12⟩; have HB12 : Aside0 (Below w7.heap.size w7 w12) := ⟨HB97.out.drew.trans (hb12.mono HB97.out.size)⟩; clear hb12))
        go_roundw
        case rel => exact ⟨i + 1, by go_num, by omega, HB12⟩
        case measure => simp [intOf]; omega
    · have hiq : i = l2.length := by omega
      have hdi : decide ((i : Int) < (Y.length : Int)) = false := decide_eq_false (by omega)
      have HEND := Aside0.mk (B7.out.trans (HB.out.mono B7.out.size))
      clear hiq
      go_wp2
      go_ret
      exact ⟨rfl, HEND.out⟩
set_option maxHeartbeats 4000000 in
theorem law (w : World) (a0 : Int) (w0 : (Lit.int .u8 a0).wf = true) (A1 : Option Addr) (c1 : Nat) (l1 : List S33) (hc1 : l1.length ≤ c1) (hr1 : Kd.C k33 w A1 l1.length l1) (hg1 : ∀ x ∈ l1, good33 x) (A2 : Option Addr) (c2 : Nat) (l2 : List S33) (hc2 : l2.length ≤ c2) (hr2 : Kd.C k33 w A2 l2.length l2) (hg2 : ∀ x ∈ l2, good33 x) :
    Calls Try.prog 5 #[.int .u8 a0, .slice A1 l1.length c1, .slice A2 l2.length c2] w fun e w' => e = .returned (.bool true) ∧ Below w.heap.size w w' := by
  have HR1 := Aside0.mk hr1
  have HR2 := Aside0.mk hr2
  have HG1 := Aside0.mk hg1
  have HG2 := Aside0.mk hg2
  obtain ⟨h00, h01⟩ := byte_wf w0
  clear hr1 hr2 hg1 hg2
  by_cases hb1 : 2147483647 < l1.length
  · have hd : decide ((l1.length : Int) > 2147483647) = true := decide_eq_true (by omega)
    go_enter Try.func5, Try.ntmps5
    go_wp2
    go_ret
    exact ⟨rfl, Below.refl _ _⟩
  have hd1 : decide ((l1.length : Int) > 2147483647) = false := decide_eq_false (by omega)
  by_cases hb2 : 2147483647 < l2.length
  · have hd : decide ((l2.length : Int) > 2147483647) = true := decide_eq_true (by omega)
    go_enter Try.func5, Try.ntmps5
    go_wp2
    go_ret
    exact ⟨rfl, Below.refl _ _⟩
  have hd2 : decide ((l2.length : Int) > 2147483647) = false := decide_eq_false (by omega)
  have HF1c := Aside0.mk (few_c l1 (by omega) HR1.out (c := c1))
  have HF2c := Aside0.mk (few_c l2 (by omega) HR2.out (c := c2))
  by_cases hf1 : few l1 = false
  · have HF : Aside0 (few l1 = false) := ⟨hf1⟩
    clear hf1
    go_enter Try.func5, Try.ntmps5
    go_wp2_with (go_at_call 15; with_reducible refine HF1c.out.mono ?_; rintro e w3 ⟨he, hw3⟩; rw [HF.out] at he; subst he; have hw4 := hw3.symm; subst hw4)
    go_ret
    exact ⟨rfl, Below.refl _ _⟩
  have HF1 : Aside0 (few l1 = true) := ⟨by simpa using hf1⟩
  clear hf1
  by_cases hf2 : few l2 = false
  · have HF : Aside0 (few l2 = false) := ⟨hf2⟩
    clear hf2
    go_enter Try.func5, Try.ntmps5
    go_wp2_with (first
      | (go_at_call 15; with_reducible refine HF1c.out.mono ?_; rintro e w3 ⟨he, hw3⟩; rw [HF1.out] at he; subst he; have hw4 := hw3.symm; subst hw4)
      | (go_at_call 15; with_reducible refine HF2c.out.mono ?_; rintro e w3 ⟨he, hw3⟩; rw [HF.out] at he; subst he; have hw4 := hw3.symm; subst hw4))
    go_ret
    exact ⟨rfl, Below.refl _ _⟩
  have HF2 : Aside0 (few l2 = true) := ⟨by simpa using hf2⟩
  clear hf2
  by_cases hsum : 300 < l1.length + l2.length
  · have hd3 : decide ((l1.length : Int) + (l2.length : Int) > 300) = true := decide_eq_true (by omega)
    go_enter Try.func5, Try.ntmps5
    go_wp2_with (first
      | (go_at_call 15; with_reducible refine HF1c.out.mono ?_; rintro e w3 ⟨he, hw3⟩; rw [HF1.out] at he; subst he; have hw4 := hw3.symm; subst hw4)
      | (go_at_call 15; with_reducible refine HF2c.out.mono ?_; rintro e w3 ⟨he, hw3⟩; rw [HF2.out] at he; subst he; have hw4 := hw3.symm; subst hw4))
    go_ret
    exact ⟨rfl, Below.refl _ _⟩
  exact law2 w a0 w0 A1 c1 l1 hc1 HR1.out HG1.out A2 c2 l2 hc2 HR2.out HG2.out HF1.out HF2.out hsum
end Go.Proofs.Ytphnnbbgcnilgaa.CacLp
