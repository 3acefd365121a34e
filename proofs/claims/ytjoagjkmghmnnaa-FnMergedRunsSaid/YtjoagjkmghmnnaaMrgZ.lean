/-
  Proved: what impl.MergedOf returns: the runs of merged columns. Conditions: at most 100 cells, 0 to 200 columns.
-/
import Derived.Test.YtjoagjkmghmnnaaMrgW
import Derived.Laws.Tables
namespace Go.Proofs.Ytjoagjkmghmnnaa.MrgZ
open Go.RowKit Go.Proofs.YtjoagjkmghmnnaaW.PrintWords Go.Proofs.YtjoagjkmghmnnaaW.PrintLast Go.Proofs.Ytjoagjkmghmnnaa.Common Go.Proofs.Ytjoagjkmghmnnaa.IMap Go.Proofs.Ytjoagjkmghmnnaa.MrgP Go.Proofs.Ytjoagjkmghmnnaa.MrgW
set_option linter.unusedVariables false
set_option linter.unusedSimpArgs false

theorem wp_built {P : Program} {o : Oper} {a : Act} {w : World} {K : Act → World → Prop} {Q : Exit → Act → World → Prop} (t : TypeId) (parts : Array (Nat × Operand)) (ho : o.op = .build t parts) (T : Array Value)
    (hT : P.built t (parts.map fun (i, x) => (i, a.eval x)).toList = some T) (h : K (a.put o.dst (.agg T)) w) : o.wp P a w K Q :=
  wp_build t parts ho (by rw [hT]; rfl) (by rw [hT]; exact h)
theorem tbl_ex (columns : Int) (bm : Nat) : ∃ T : Array Value, Try.prog.built 159 [(14, .int .i64 columns), (20, .map (some bm))] = some T ∧ T[14]? = some (.int .i64 columns) ∧ T[22]? = some (.map (some bm)) := by
  have h : (Try.prog.built 159 [(14, .int .i64 columns), (20, .map (some bm))]).isSome = true := by kernel_rfl
  have h2 : ((Try.prog.built 159 [(14, .int .i64 columns), (20, .map (some bm))]).getD #[])[14]? = some (.int .i64 columns) := by kernel_rfl
  have h3 : ((Try.prog.built 159 [(14, .int .i64 columns), (20, .map (some bm))]).getD #[])[22]? = some (.map (some bm)) := by kernel_rfl
  obtain ⟨T, hT⟩ := Option.isSome_iff_exists.1 h
  rw [hT] at h2 h3
  exact ⟨T, hT, h2, h3⟩
set_option maxHeartbeats 8000000 in
set_option maxRecDepth 1000000 in
theorem zz_c (A : Option Addr) (cp : Nat) (cells : List ByteArray) (columns : Int) (W : World)
    (hr : Kd.C Kd.string W A cells.length cells) (hcp : cells.length ≤ cp) (hl : cells.length ≤ 100) (hc0 : 0 ≤ columns) (hc1 : columns ≤ 200) :
    Calls Try.prog 52 #[.slice A cells.length cp, .int .i64 columns] W (Post cells (columns - 1) W) := by
  have HR := Aside0.mk hr
  clear hr
  obtain ⟨T, hT, h14, h22⟩ := tbl_ex columns W.heap.size
  have HT14 := Aside0.mk h14
  have HT22 := Aside0.mk h22
  have HTB := Aside0.mk hT
  clear hT h14 h22
  have hmm := @run_makeMap Try.prog
  go_enter Try.func52, Try.ntmps52
  go_wp2_with ((with_reducible refine wp_insert (q := .i64) (b := W.heap.size) (f := fun _ => none) rfl (.tmp 7) _ _ rfl Try.underlying139 Try.underlying3 ?c1 ?c2 0 ?c3 ?c4 ?_); (case c1 => rfl); (case c2 => exact imap_made W .i64); (case c3 => rfl); (case c4 => decide); intro w1 him hg; have HIM := Aside0.mk him; have HG := Aside0.mk hg; clear him hg)
  have HB : Aside0 (Below W.heap.size W (w1.alloc (.cells T 159))) := ⟨below_alloc ((below_alloc (Below.refl _ W) (.map #[] 0)).grown HG.out (by rw [World.size_alloc]; omega) (fun k hk => by cases hk; exact Nat.le_refl _)) _⟩
  have HIM2 : Aside0 (imap (w1.alloc (.cells T 159)) .i64 W.heap.size (fun m => if m = 0 then some cfg else none)) := ⟨imap_alloc HIM.out _⟩
  have hc := heap_alloc_new w1 (.cells T 159)
  have C14 : Aside0 ((w1.alloc (.cells T 159)).cell? ⟨w1.heap.size, 14, none⟩ = some (.int .i64 columns)) := ⟨(cell_of_row _ _ _ _ _ _ (heap_alloc_new w1 _)).trans HT14.out⟩
  have C22 : Aside0 ((w1.alloc (.cells T 159)).cell? ⟨w1.heap.size, 22, none⟩ = some (.map (some W.heap.size))) := ⟨(cell_of_row _ _ _ _ _ _ (heap_alloc_new w1 _)).trans HT22.out⟩
  have MC := Aside0.mk (merged_c w1.heap.size W.heap.size _ A cp cells columns _ C22.out C14.out HIM2.out rfl (Kd.C_below HR.out HB.out) hcp hl hc0 hc1)
  clear hc hmm
  unfold hint1 at MC
  refine wp_built 159 _ rfl T (by simp only [List.map_toArray, List.map_cons, List.map_nil]; exact HTB.out) ?_
  go_wp2_with (go_at_call 83; refine MC.out.mono ?_; rintro e w2 ⟨b, c, L, rfl, h1, h2, h3, h4, h5⟩; have H1 := Aside0.mk h1; have H2 := Aside0.mk h2; have H3 := Aside0.mk h3; have H4 := Aside0.mk h4; have H5 := Aside0.mk h5; clear h1 h2 h3 h4 h5)
  go_ret
  exact ⟨b, c, L, rfl, Nat.le_trans HB.out.size H1.out, H2.out, H3.out, H4.out, below_step HB.out H5.out⟩
theorem info34 : (Try.prog.info? 34).map (fun i => (i.zero, i.size, i.bytes)) = some (some (.agg #[.int .i64 0, .int .i64 0]), 2, 16) := by kernel_rfl
theorem append2 {ops : Array Oper} {rest : List Oper} {o : Oper} {a : Act} {Q : Exit → Act → World → Prop} {w0 W : World} (base : Nat) (hgd : o.guard = none) (s x : Operand)
    (ho : o.op = .call { callee := .builtin .append, args := #[s, x], argTypes := #[32, 32] }) (v : Value) (L : List (Nat × Nat)) (i e : Nat) (hs : a.eval s = v) (hx : a.eval x = .slice (some ⟨W.heap.size, 0, none⟩) 1 1)
    (HO : W.ownsRow base 34 2 v L.length (flat L)) (HB : Below base w0 W) (hbase : base ≤ W.heap.size) (hl : L.length ≤ 1000)
    (h : ∀ v1 w1, w1.ownsRow base 34 2 v1 (L ++ [(i, e)]).length (flat (L ++ [(i, e)])) → Below base w0 w1 → W.grownBy w1 v.ownBlock → (v1.ownBlock = v.ownBlock ∨ ∃ b, v1.ownBlock = some b ∧ W.heap.size ≤ b) → wpList Try.prog ops Q rest (a.put o.dst v1) w1) :
    wpList Try.prog ops Q (o :: rest) a (W.alloc (.cells #[.int .i64 (i : Int), .int .i64 (e : Int)] 34)) := by
  obtain ⟨i0, hi, hzz⟩ := Option.map_eq_some_iff.1 info34
  simp only [Prod.mk.injEq] at hzz
  obtain ⟨hz0, hz1, hz2⟩ := hzz
  refine wpList_append_own_at (W.alloc (.cells #[.int .i64 (i : Int), .int .i64 (e : Int)] 34)) hgd s x 32 ho base 34 i0 _ 2 16 Try.underlying32 hi hz0 hz1 hz2 rfl (by omega) v L.length (flat L) hs (HO.alloc _) ⟨W.heap.size, 0, none⟩ 1 1 [.int .i64 (i : Int), .int .i64 (e : Int)] hx rfl
    (World.news_of_block (cs := #[.int .i64 (i : Int), .int .i64 (e : Int)]) (t := 34) (fr := (0, 0)) (heap_alloc_new W _)) (by intro u hu; simp at hu; rcases hu with rfl | rfl <;> rfl) (by simp only [maxLen]; omega) (by omega) (by simp; omega) ?_
  intro v1 w1 hown hg _ hat
  refine h v1 w1 (by rw [flat_app, List.length_append]; exact hown) ((HB.alloc hbase _).grown hg (by simp; omega) (own_base HO)) (World.grownBy.trans (World.grownBy_alloc W _ _) hg) ?_
  rcases hat with hat | hat
  · exact .inl hat
  · exact .inr ⟨_, hat, by simp⟩
theorem zeroInt (w : World) : (zeroValue 3).run Try.prog w = .ok (.int .i64 0) w := by kernel_rfl
def PostM (cells : List ByteArray) (bound : Int) (w : World) (e : Ending) (w' : World) : Prop :=
  ∃ (v : Value) (c : Nat) (L : List (Nat × Nat)), e = .returned v ∧ bound ≤ (c : Int) ∧ Inv cells bound c L ∧ w'.ownsRow w.heap.size 34 2 v L.length (flat L) ∧ Below w.heap.size w w'
structure St (W : World) (b : Nat) (L : List (Nat × Nat)) (v : Value) (i : Nat) (wr : World) : Prop where
  row : wr.ownsRow W.heap.size 34 2 v (upto L i).length (flat (upto L i))
  map : imap wr .i64 b (MrgP.look L)
  off : some b ≠ v.ownBlock
  bel : Below W.heap.size W wr
set_option maxHeartbeats 8000000 in
set_option maxRecDepth 1000000 in
theorem merged_of (A : Option Addr) (cp : Nat) (cells : List ByteArray) (columns : Int) (W : World)
    (hr : Kd.C Kd.string W A cells.length cells) (hcp : cells.length ≤ cp) (hl : cells.length ≤ 100) (hc0 : 0 ≤ columns) (hc1 : columns ≤ 200) :
    Calls Try.prog 21 #[.slice A cells.length cp, .int .i64 columns] W (PostM cells (columns - 1) W) := by
  have ZC := Aside0.mk (zz_c A cp cells columns W hr hcp hl hc0 hc1)
  clear hr
  go_enter Try.func21, Try.ntmps21
  go_wp2_with (go_at_call 52; refine ZC.out.mono ?_; rintro e w2 ⟨b, c, L, rfl, h1, h2, h3, h4, h5⟩; have H1 := Aside0.mk h1; have H2 := Aside0.mk h2; have H3 := Aside0.mk h3; have H4 := Aside0.mk h4; have H5 := Aside0.mk h5; clear h1 h2 h3 h4 h5)
  have HLL := Aside0.mk (runs_len H3.out)
  go_loopw [15, 6] (fun u v wr => ∃ (i : Nat) (x : Value), Value.int .i64 (i : Int) = u ∧ x = v ∧ i ≤ cells.length ∧ Aside0 (St W b L x i wr)) (fun u _ _ => cells.length - (intOf u).toNat)
  case atStart => exact ⟨0, _, rfl, rfl, by omega, ⟨⟨by
    have : upto L 0 = [] := by unfold upto; rw [List.filter_eq_nil_iff]; intro p _; simp
    rw [this]; exact own_nil _ _ _ _, H4.out, by simp [Value.ownBlock], H5.out⟩⟩⟩
  case round =>
    obtain ⟨i, x, rfl, rfl, hi, HS⟩ := hrel
    by_cases hlt : i < cells.length
    · have hul := upto_len L i
      have hul2 : (upto L i).length ≤ 100 := by have := HLL.out; omega
      have HUL := Aside0.mk hul2
      clear hul hul2
      rcases upto_step H3.out.pair (fun p hp => (H3.out.runs p hp).1.lt) i with ⟨hlk, hup⟩ | ⟨e, hlk, hup⟩
      · have HLK := Aside0.mk hlk
        have HUP := Aside0.mk hup
        clear hlk hup
        go_wp2_with (at_lookup; refine wp_lookup rfl _ _ true rfl Try.underlying77 Try.underlying3 _ (zeroInt _) rfl HS.out.map (i : Int) rfl (WalkArith.wf_i64 (by omega)) ?_; rw [HLK.out]; simp only [if_true, Option.getD_none, Option.isSome_none])
        go_roundw
        case rel => exact ⟨i + 1, x, by go_num, rfl, by omega, ⟨⟨by rw [HUP.out]; exact HS.out.row, HS.out.map, HS.out.off, HS.out.bel⟩⟩⟩
        case measure => simp [intOf]; omega
      · have HLK := Aside0.mk hlk
        have HUP := Aside0.mk hup
        clear hlk hup
        go_wp2_with (first
          | (at_lookup; refine wp_lookup rfl _ _ true rfl Try.underlying77 Try.underlying3 _ (zeroInt _) rfl HS.out.map (i : Int) rfl (WalkArith.wf_i64 (by omega)) ?_; rw [HLK.out]; simp only [if_true, Option.getD_some, Option.isSome_some])
          | ((with_reducible refine gate_builtin (b := .append) (xs := #[.tmp 25, .tmp 29]) rfl ?_); at_builtin; refine append2 (w0 := W) W.heap.size rfl (.tmp 25) (.tmp 29) rfl x (upto L i) i e rfl rfl HS.out.row HS.out.bel HS.out.bel.size (by have := HUL.out; omega) ?_; intro v1 w1 ho hb hg hat; have HO1 := Aside0.mk ho; have HB1 := Aside0.mk hb; have HG1 := Aside0.mk hg; have HT1 := Aside0.mk hat; clear ho hb hg hat))
        have N : Aside0 (St W b L v1 (i + 1) w1) := ⟨⟨by rw [HUP.out]; exact HO1.out, imap_of_heap HS.out.map (HG1.out.block b (imap_lt HS.out.map) HS.out.off), by
          rcases HT1.out with e2 | ⟨b2, e2, hle⟩
          · rw [e2]; exact HS.out.off
          · rw [e2]; intro e3; have := imap_lt HS.out.map; simp at e3; omega, HB1.out⟩⟩
        go_roundw
        case rel => exact ⟨i + 1, v1, by go_num, rfl, by omega, N⟩
        case measure => simp [intOf]; omega
    · obtain rfl : i = cells.length := by omega
      have HR := HS.out.row
      rw [upto_all H3.out] at HR
      have HRR := Aside0.mk HR
      clear HR
      go_wp2
      go_ret
      exact ⟨x, c, L, rfl, H2.out, H3.out, HRR.out, HS.out.bel⟩
end Go.Proofs.Ytjoagjkmghmnnaa.MrgZ
