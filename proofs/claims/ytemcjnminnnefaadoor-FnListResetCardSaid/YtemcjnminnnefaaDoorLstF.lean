/-
  Proved: what the bullets of a list's rendering are. Conditions: a style's texts of at most 1000 bytes.
-/
import Derived.Test.YtemcjnminnnefaaDoorLstE
namespace Go.Proofs.YtemcjnminnnefaaDoor.LstF
open Go.RowKit Go.Proofs.YtemcjnminnnefaaDoorW.PrintWords Go.Proofs.YtemcjnminnnefaaDoor.Common Go.Proofs.YtemcjnminnnefaaDoor.LstT Go.Proofs.YtemcjnminnnefaaDoor.LstA Go.Proofs.YtemcjnminnnefaaDoor.LstB Go.Proofs.YtemcjnminnnefaaDoor.LstC Go.Proofs.YtemcjnminnnefaaDoor.LstE Go.Proofs.YtemcjnminnnefaaDoor.Bld
set_option linter.unusedVariables false
set_option linter.unusedSimpArgs false
set_option maxRecDepth 1000000

/-- a style's texts are short -/
def shortY (y : Sty) (vs : ByteArray) : Prop := y.sg.size ≤ 1000 ∧ y.tp.size ≤ 1000 ∧ y.fi.size ≤ 1000 ∧ y.mi.size ≤ 1000 ∧ y.ve.size ≤ 1000 ∧ y.bo.size ≤ 1000 ∧ y.px.size ≤ 1000 ∧ vs.size ≤ 1000
/-- the builder in block Bb holds acc; the list is read as it was -/
structure RB (q qs : Nat) (its : List (Nat × ByteArray)) (y : Sty) (vs : ByteArray) (Bb : Nat) (W0 : World) (acc : List UInt8) (m : Nat) (W : World) : Prop where
  rd : ∀ W, Below Bb W0 W → RD q qs its y vs W
  bs : BS Bb W0 acc m W
section
variable {q qs : Nat} {its : List (Nat × ByteArray)} {y : Sty} {vs : ByteArray} {Bb : Nat} {W0 : World} {acc : List UInt8} {m : Nat} {W : World}
theorem RB.below {W1 : World} (h : RB q qs its y vs Bb W0 acc m W) (hb : Below W.heap.size W W1) : RB q qs its y vs Bb W0 acc m W1 := ⟨h.rd, h.bs.below hb⟩
theorem RB.str (h : RB q qs its y vs Bb W0 acc m W) (s : ByteArray) (hs : s.size ≤ 1000) (hm : m ≤ 10000000000000) :
    Calls Tryd.prog 41 #[.pointer (some ⟨Bb, 0, none⟩), .string s] W fun e w' => ∃ v, e = .returned v ∧ RB q qs its y vs Bb W0 (acc ++ s.data.toList) (m + 1000) w' := by
  refine (wrString s h.bs (by omega)).mono ?_
  rintro e w' ⟨v, rfl, hb⟩
  exact ⟨v, rfl, h.rd, hb.mono rfl (by have := hb.len; omega)⟩
/-- blocks of type 58 stay -/
def K58 (W W1 : World) : Prop := ∀ (g : Nat) (T : Array Value), W.heap[g]? = some (.cells T 58 (0, 0)) → W1.heap[g]? = some (.cells T 58 (0, 0))
theorem K58.trans {W1 W2 : World} (h : K58 W W1) (k : K58 W1 W2) : K58 W W2 := fun g T hg => k g T (h g T hg)
theorem K58.refl (W : World) : K58 W W := fun _ _ h => h
theorem K58.of_below {W1 : World} (h : Below W.heap.size W W1) : K58 W W1 := fun g T hg => (h.block g (Array.getElem?_eq_some_iff.1 hg).1).trans hg
theorem RB.strK (h : RB q qs its y vs Bb W0 acc m W) (s : ByteArray) (hs : s.size ≤ 1000) (hm : m ≤ 10000000000000) :
    Calls Tryd.prog 41 #[.pointer (some ⟨Bb, 0, none⟩), .string s] W fun e w' => ∃ v, e = .returned v ∧ RB q qs its y vs Bb W0 (acc ++ s.data.toList) (m + 1000) w' ∧ K58 W w' := by
  have hlen := h.bs.len
  have hty : ∀ g T, W.heap[g]? = some (.cells T 58 (0, 0)) → g ≠ Bb := fun g T hg e => by
    subst e
    rcases h.bs.isb with ⟨_, v, hv, _⟩ | ⟨_, v, hv, _⟩
    · exact absurd rfl (typed_ne hg hv (by decide))
    · exact absurd rfl (typed_ne hg hv (by decide))
  refine (Tryd.Builder_WriteString_k Bb Bb _ s W h.bs.isb (by rw [Lib.byteCells_length]; omega) h.bs.here).mono ?_
  rintro e w' ⟨rfl, h1, h2, h3⟩
  refine ⟨_, rfl, ⟨h.rd, ?_, h.bs.bel.trans h2, by rw [List.length_append, size_l]; omega, h.bs.lt⟩, fun g T hg => h3 g _ hg (fun e => hty g T hg (by injection e)) (fun c fz e => by injection e with _ e; exact absurd e (by decide))⟩
  rw [Lib.byteCells_append, ← Lib.strCells_eq]
  exact Or.inr h1
theorem RB.rune (h : RB q qs its y vs Bb W0 acc m W) (c : UInt8) (hc : c.toNat < 128) (r : Int) (hr : r = (c.toNat : Int)) (hm : m ≤ 10000000000000) :
    Calls Tryd.prog 34 #[.pointer (some ⟨Bb, 0, none⟩), .int .i32 r] W fun e w' => ∃ v, e = .returned v ∧ RB q qs its y vs Bb W0 (acc ++ [c]) (m + 1) w' := by
  refine (wrRune c hc r hr h.bs (by omega)).mono ?_
  rintro e w' ⟨v, rfl, hb⟩
  exact ⟨v, rfl, h.rd, hb⟩
theorem RB.runeK (h : RB q qs its y vs Bb W0 acc m W) (c : UInt8) (hc : c.toNat < 128) (r : Int) (hr : r = (c.toNat : Int)) (hm : m ≤ 10000000000000) :
    Calls Tryd.prog 34 #[.pointer (some ⟨Bb, 0, none⟩), .int .i32 r] W fun e w' => ∃ v, e = .returned v ∧ RB q qs its y vs Bb W0 (acc ++ [c]) (m + 1) w' ∧ K58 W w' := by
  have hlen := h.bs.len
  have hty : ∀ g T, W.heap[g]? = some (.cells T 58 (0, 0)) → g ≠ Bb := fun g T hg e => by
    subst e
    rcases h.bs.isb with ⟨_, v, hv, _⟩ | ⟨_, v, hv, _⟩
    · exact absurd rfl (typed_ne hg hv (by decide))
    · exact absurd rfl (typed_ne hg hv (by decide))
  refine (Tryd.Builder_WriteRune_k Bb Bb _ r (by omega) (by omega) W h.bs.isb (by rw [Lib.byteCells_length]; omega) h.bs.here).mono ?_
  rintro e w' ⟨rfl, h1, h2, h3⟩
  refine ⟨_, rfl, ⟨h.rd, ?_, h.bs.bel.trans h2, by rw [List.length_append]; simp; omega, h.bs.lt⟩, fun g T hg => h3 g _ hg (fun e => hty g T hg (by injection e)) (fun c fz e => by injection e with _ e; exact absurd e (by decide))⟩
  have e2 : Lib.runeCells r = Lib.byteCells [c] := by
    rw [Lib.runeCells, Lib.encodeRuneZ_one (by omega) (by omega), hr]
    rfl
  rw [Lib.byteCells_append, ← e2]
  exact Or.inr h1
/-- the cells of the style, and the list's two -/
theorem RB.cells (h : RB q qs its y vs Bb W0 acc m W) : W.cell? ⟨q, 1, none⟩ = some (.string vs) ∧ W.cell? ⟨q, 5, none⟩ = some (.pointer (some ⟨qs, 0, none⟩)) ∧ W.cell? ⟨qs, 0, none⟩ = some (.int .i64 0) ∧ W.cell? ⟨qs, 1, none⟩ = some (.string y.sg) ∧ W.cell? ⟨qs, 2, none⟩ = some (.string y.tp) ∧ W.cell? ⟨qs, 3, none⟩ = some (.string y.fi) ∧ W.cell? ⟨qs, 4, none⟩ = some (.string y.mi) ∧ W.cell? ⟨qs, 5, none⟩ = some (.string y.ve) ∧ W.cell? ⟨qs, 6, none⟩ = some (.string y.bo) ∧ W.cell? ⟨qs, 7, none⟩ = some (.string ⟨#[10]⟩) ∧ W.cell? ⟨qs, 8, none⟩ = some (.string y.px) := by
  have r := h.rd W h.bs.bel
  exact ⟨r.c1, r.c5, r.st 0 _ rfl, r.st 1 _ rfl, r.st 2 _ rfl, r.st 3 _ rfl, r.st 4 _ rfl, r.st 5 _ rfl, r.st 6 _ rfl, r.st 7 _ rfl, r.st 8 _ rfl⟩
def bulletF (y : Sty) (t f o l b : Bool) : ByteArray := if o then (if t then y.sg else y.bo) else if t then y.tp else if f then y.fi else if b || l then y.bo else y.mi
theorem single_c (h : RB q qs its y vs Bb W0 acc m W) (hy : shortY y vs) (hm : m ≤ 1000000000000) (t f o l b : Bool) :
    Calls Tryd.prog 56 #[.pointer (some ⟨q, 0, none⟩), .pointer (some ⟨Bb, 0, none⟩), .agg #[.bool t, .bool f, .bool o, .bool l, .bool b]] W fun e w' => ∃ u, e = .returned u ∧ RB q qs its y vs Bb W0 (acc ++ (bulletF y t f o l b).data.toList ++ [32]) (m + 2000) w' := by
  obtain ⟨y1, y2, y3, y4, y5, y6, y7, y8⟩ := hy
  have HB := Aside0.mk h
  clear h
  cases o
  · cases t
    · cases f
      · cases b
        · cases l
          · have e : bulletF y false false false false false = y.mi := by simp [bulletF]
            rw [e]
            clear e
            go_enter Tryd.func56, Tryd.ntmps56
            go_wp2_with (first
              | ((with_reducible refine gate_dst (N := 5) rfl ?_); (try (refine gate_guard (by rfl) ?_; dsimp only)); refine box_event ?hg (N := 5) ?hd (cs := #[.bool false, .bool false, .bool false, .bool false, .bool false]) (t := 58) ?hr ?_; (case hd => rfl); (case hg => rfl); (case hr => first | (go_simp; done) | (go_simp; rfl)); intro gb hgb w10 hbox hb; have HB1 := Aside0.mk (HB.out.below hb); have b0 : w10.cell? ⟨gb, 0, none⟩ = some (.bool false) := (blk_cell hbox 0).trans rfl; have b1 : w10.cell? ⟨gb, 1, none⟩ = some (.bool false) := (blk_cell hbox 1).trans rfl; have b2 : w10.cell? ⟨gb, 2, none⟩ = some (.bool false) := (blk_cell hbox 2).trans rfl; have b3 : w10.cell? ⟨gb, 3, none⟩ = some (.bool false) := (blk_cell hbox 3).trans rfl; have b4 : w10.cell? ⟨gb, 4, none⟩ = some (.bool false) := (blk_cell hbox 4).trans rfl; obtain ⟨c1, c5, s0, s1, s2, s3, s4, s5, s6, s7, s8⟩ := HB1.out.cells; clear hgb hbox hb)
              | (go_at_call 41; refine (HB1.out.str _ y4 (by omega)).mono ?_; rintro e w2 ⟨v2, rfl, hb2⟩; have HB2 := Aside0.mk hb2; clear hb2)
              | (go_at_call 34; refine (HB2.out.rune 32 (by decide) 32 rfl (by omega)).mono ?_; rintro e w3 ⟨v3, rfl, hb3⟩; have HB3 := Aside0.mk hb3; clear hb3))
            go_end0
            exact ⟨_, rfl, HB3.out.rd, HB3.out.bs.mono rfl (by have := HB3.out.bs.len; omega)⟩
          · have e : bulletF y false false false true false = y.bo := by simp [bulletF]
            rw [e]
            clear e
            go_enter Tryd.func56, Tryd.ntmps56
            go_wp2_with (first
              | ((with_reducible refine gate_dst (N := 5) rfl ?_); (try (refine gate_guard (by rfl) ?_; dsimp only)); refine box_event ?hg (N := 5) ?hd (cs := #[.bool false, .bool false, .bool false, .bool true, .bool false]) (t := 58) ?hr ?_; (case hd => rfl); (case hg => rfl); (case hr => first | (go_simp; done) | (go_simp; rfl)); intro gb hgb w10 hbox hb; have HB1 := Aside0.mk (HB.out.below hb); have b0 : w10.cell? ⟨gb, 0, none⟩ = some (.bool false) := (blk_cell hbox 0).trans rfl; have b1 : w10.cell? ⟨gb, 1, none⟩ = some (.bool false) := (blk_cell hbox 1).trans rfl; have b2 : w10.cell? ⟨gb, 2, none⟩ = some (.bool false) := (blk_cell hbox 2).trans rfl; have b3 : w10.cell? ⟨gb, 3, none⟩ = some (.bool true) := (blk_cell hbox 3).trans rfl; have b4 : w10.cell? ⟨gb, 4, none⟩ = some (.bool false) := (blk_cell hbox 4).trans rfl; obtain ⟨c1, c5, s0, s1, s2, s3, s4, s5, s6, s7, s8⟩ := HB1.out.cells; clear hgb hbox hb)
              | (go_at_call 41; refine (HB1.out.str _ y6 (by omega)).mono ?_; rintro e w2 ⟨v2, rfl, hb2⟩; have HB2 := Aside0.mk hb2; clear hb2)
              | (go_at_call 34; refine (HB2.out.rune 32 (by decide) 32 rfl (by omega)).mono ?_; rintro e w3 ⟨v3, rfl, hb3⟩; have HB3 := Aside0.mk hb3; clear hb3))
            go_end0
            exact ⟨_, rfl, HB3.out.rd, HB3.out.bs.mono rfl (by have := HB3.out.bs.len; omega)⟩
        · have e : bulletF y false false false l true = y.bo := by simp [bulletF]
          rw [e]
          clear e
          go_enter Tryd.func56, Tryd.ntmps56
          go_wp2_with (first
            | ((with_reducible refine gate_dst (N := 5) rfl ?_); (try (refine gate_guard (by rfl) ?_; dsimp only)); refine box_event ?hg (N := 5) ?hd (cs := #[.bool false, .bool false, .bool false, .bool l, .bool true]) (t := 58) ?hr ?_; (case hd => rfl); (case hg => rfl); (case hr => first | (go_simp; done) | (go_simp; rfl)); intro gb hgb w10 hbox hb; have HB1 := Aside0.mk (HB.out.below hb); have b0 : w10.cell? ⟨gb, 0, none⟩ = some (.bool false) := (blk_cell hbox 0).trans rfl; have b1 : w10.cell? ⟨gb, 1, none⟩ = some (.bool false) := (blk_cell hbox 1).trans rfl; have b2 : w10.cell? ⟨gb, 2, none⟩ = some (.bool false) := (blk_cell hbox 2).trans rfl; have b3 : w10.cell? ⟨gb, 3, none⟩ = some (.bool l) := (blk_cell hbox 3).trans rfl; have b4 : w10.cell? ⟨gb, 4, none⟩ = some (.bool true) := (blk_cell hbox 4).trans rfl; obtain ⟨c1, c5, s0, s1, s2, s3, s4, s5, s6, s7, s8⟩ := HB1.out.cells; clear hgb hbox hb)
            | (go_at_call 41; refine (HB1.out.str _ y6 (by omega)).mono ?_; rintro e w2 ⟨v2, rfl, hb2⟩; have HB2 := Aside0.mk hb2; clear hb2)
            | (go_at_call 34; refine (HB2.out.rune 32 (by decide) 32 rfl (by omega)).mono ?_; rintro e w3 ⟨v3, rfl, hb3⟩; have HB3 := Aside0.mk hb3; clear hb3))
          go_end0
          exact ⟨_, rfl, HB3.out.rd, HB3.out.bs.mono rfl (by have := HB3.out.bs.len; omega)⟩
      · have e : bulletF y false true false l b = y.fi := by simp [bulletF]
        rw [e]
        clear e
        go_enter Tryd.func56, Tryd.ntmps56
        go_wp2_with (first
          | ((with_reducible refine gate_dst (N := 5) rfl ?_); (try (refine gate_guard (by rfl) ?_; dsimp only)); refine box_event ?hg (N := 5) ?hd (cs := #[.bool false, .bool true, .bool false, .bool l, .bool b]) (t := 58) ?hr ?_; (case hd => rfl); (case hg => rfl); (case hr => first | (go_simp; done) | (go_simp; rfl)); intro gb hgb w10 hbox hb; have HB1 := Aside0.mk (HB.out.below hb); have b0 : w10.cell? ⟨gb, 0, none⟩ = some (.bool false) := (blk_cell hbox 0).trans rfl; have b1 : w10.cell? ⟨gb, 1, none⟩ = some (.bool true) := (blk_cell hbox 1).trans rfl; have b2 : w10.cell? ⟨gb, 2, none⟩ = some (.bool false) := (blk_cell hbox 2).trans rfl; have b3 : w10.cell? ⟨gb, 3, none⟩ = some (.bool l) := (blk_cell hbox 3).trans rfl; have b4 : w10.cell? ⟨gb, 4, none⟩ = some (.bool b) := (blk_cell hbox 4).trans rfl; obtain ⟨c1, c5, s0, s1, s2, s3, s4, s5, s6, s7, s8⟩ := HB1.out.cells; clear hgb hbox hb)
          | (go_at_call 41; refine (HB1.out.str _ y3 (by omega)).mono ?_; rintro e w2 ⟨v2, rfl, hb2⟩; have HB2 := Aside0.mk hb2; clear hb2)
          | (go_at_call 34; refine (HB2.out.rune 32 (by decide) 32 rfl (by omega)).mono ?_; rintro e w3 ⟨v3, rfl, hb3⟩; have HB3 := Aside0.mk hb3; clear hb3))
        go_end0
        exact ⟨_, rfl, HB3.out.rd, HB3.out.bs.mono rfl (by have := HB3.out.bs.len; omega)⟩
    · have e : bulletF y true f false l b = y.tp := by simp [bulletF]
      rw [e]
      clear e
      go_enter Tryd.func56, Tryd.ntmps56
      go_wp2_with (first
        | ((with_reducible refine gate_dst (N := 5) rfl ?_); (try (refine gate_guard (by rfl) ?_; dsimp only)); refine box_event ?hg (N := 5) ?hd (cs := #[.bool true, .bool f, .bool false, .bool l, .bool b]) (t := 58) ?hr ?_; (case hd => rfl); (case hg => rfl); (case hr => first | (go_simp; done) | (go_simp; rfl)); intro gb hgb w10 hbox hb; have HB1 := Aside0.mk (HB.out.below hb); have b0 : w10.cell? ⟨gb, 0, none⟩ = some (.bool true) := (blk_cell hbox 0).trans rfl; have b1 : w10.cell? ⟨gb, 1, none⟩ = some (.bool f) := (blk_cell hbox 1).trans rfl; have b2 : w10.cell? ⟨gb, 2, none⟩ = some (.bool false) := (blk_cell hbox 2).trans rfl; have b3 : w10.cell? ⟨gb, 3, none⟩ = some (.bool l) := (blk_cell hbox 3).trans rfl; have b4 : w10.cell? ⟨gb, 4, none⟩ = some (.bool b) := (blk_cell hbox 4).trans rfl; obtain ⟨c1, c5, s0, s1, s2, s3, s4, s5, s6, s7, s8⟩ := HB1.out.cells; clear hgb hbox hb)
        | (go_at_call 41; refine (HB1.out.str _ y2 (by omega)).mono ?_; rintro e w2 ⟨v2, rfl, hb2⟩; have HB2 := Aside0.mk hb2; clear hb2)
        | (go_at_call 34; refine (HB2.out.rune 32 (by decide) 32 rfl (by omega)).mono ?_; rintro e w3 ⟨v3, rfl, hb3⟩; have HB3 := Aside0.mk hb3; clear hb3))
      go_end0
      exact ⟨_, rfl, HB3.out.rd, HB3.out.bs.mono rfl (by have := HB3.out.bs.len; omega)⟩
  · cases t
    · have e : bulletF y false f true l b = y.bo := by simp [bulletF]
      rw [e]
      clear e
      go_enter Tryd.func56, Tryd.ntmps56
      go_wp2_with (first
        | ((with_reducible refine gate_dst (N := 5) rfl ?_); (try (refine gate_guard (by rfl) ?_; dsimp only)); refine box_event ?hg (N := 5) ?hd (cs := #[.bool false, .bool f, .bool true, .bool l, .bool b]) (t := 58) ?hr ?_; (case hd => rfl); (case hg => rfl); (case hr => first | (go_simp; done) | (go_simp; rfl)); intro gb hgb w10 hbox hb; have HB1 := Aside0.mk (HB.out.below hb); have b0 : w10.cell? ⟨gb, 0, none⟩ = some (.bool false) := (blk_cell hbox 0).trans rfl; have b1 : w10.cell? ⟨gb, 1, none⟩ = some (.bool f) := (blk_cell hbox 1).trans rfl; have b2 : w10.cell? ⟨gb, 2, none⟩ = some (.bool true) := (blk_cell hbox 2).trans rfl; have b3 : w10.cell? ⟨gb, 3, none⟩ = some (.bool l) := (blk_cell hbox 3).trans rfl; have b4 : w10.cell? ⟨gb, 4, none⟩ = some (.bool b) := (blk_cell hbox 4).trans rfl; obtain ⟨c1, c5, s0, s1, s2, s3, s4, s5, s6, s7, s8⟩ := HB1.out.cells; clear hgb hbox hb)
        | (go_at_call 41; refine (HB1.out.str _ y6 (by omega)).mono ?_; rintro e w2 ⟨v2, rfl, hb2⟩; have HB2 := Aside0.mk hb2; clear hb2)
        | (go_at_call 34; refine (HB2.out.rune 32 (by decide) 32 rfl (by omega)).mono ?_; rintro e w3 ⟨v3, rfl, hb3⟩; have HB3 := Aside0.mk hb3; clear hb3))
      go_end0
      exact ⟨_, rfl, HB3.out.rd, HB3.out.bs.mono rfl (by have := HB3.out.bs.len; omega)⟩
    · have e : bulletF y true f true l b = y.sg := by simp [bulletF]
      rw [e]
      clear e
      go_enter Tryd.func56, Tryd.ntmps56
      go_wp2_with (first
        | ((with_reducible refine gate_dst (N := 5) rfl ?_); (try (refine gate_guard (by rfl) ?_; dsimp only)); refine box_event ?hg (N := 5) ?hd (cs := #[.bool true, .bool f, .bool true, .bool l, .bool b]) (t := 58) ?hr ?_; (case hd => rfl); (case hg => rfl); (case hr => first | (go_simp; done) | (go_simp; rfl)); intro gb hgb w10 hbox hb; have HB1 := Aside0.mk (HB.out.below hb); have b0 : w10.cell? ⟨gb, 0, none⟩ = some (.bool true) := (blk_cell hbox 0).trans rfl; have b1 : w10.cell? ⟨gb, 1, none⟩ = some (.bool f) := (blk_cell hbox 1).trans rfl; have b2 : w10.cell? ⟨gb, 2, none⟩ = some (.bool true) := (blk_cell hbox 2).trans rfl; have b3 : w10.cell? ⟨gb, 3, none⟩ = some (.bool l) := (blk_cell hbox 3).trans rfl; have b4 : w10.cell? ⟨gb, 4, none⟩ = some (.bool b) := (blk_cell hbox 4).trans rfl; obtain ⟨c1, c5, s0, s1, s2, s3, s4, s5, s6, s7, s8⟩ := HB1.out.cells; clear hgb hbox hb)
        | (go_at_call 41; refine (HB1.out.str _ y1 (by omega)).mono ?_; rintro e w2 ⟨v2, rfl, hb2⟩; have HB2 := Aside0.mk hb2; clear hb2)
        | (go_at_call 34; refine (HB2.out.rune 32 (by decide) 32 rfl (by omega)).mono ?_; rintro e w3 ⟨v3, rfl, hb3⟩; have HB3 := Aside0.mk hb3; clear hb3))
      go_end0
      exact ⟨_, rfl, HB3.out.rd, HB3.out.bs.mono rfl (by have := HB3.out.bs.len; omega)⟩
end
end Go.Proofs.YtemcjnminnnefaaDoor.LstF
