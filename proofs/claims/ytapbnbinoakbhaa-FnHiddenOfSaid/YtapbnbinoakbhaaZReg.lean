/-
  Proved: what table.zzColumns lays, whatever the order of its first region. Conditions: at most 1000 columns.
-/
import Derived.Test.YtapbnbinoakbhaaZCol
namespace Go.Proofs.Ytapbnbinoakbhaa.ZReg
open Go.RowKit Go.Proofs.YtapbnbinoakbhaaW.PrintWords Go.Proofs.Ytapbnbinoakbhaa.Common Go.Proofs.Ytapbnbinoakbhaa.SlcQ Go.Proofs.Ytapbnbinoakbhaa.SlcA Go.Proofs.Ytapbnbinoakbhaa.ZCol Go.Proofs.Ytapbnbinoakbhaa.IMap
set_option linter.unusedVariables false
set_option linter.unusedSimpArgs false
set_option maxRecDepth 1000000

/-- what stands behind the region: the table's block, its style, its map, its two rows -/
structure Z1 (W : World) (S : Array Value) (xs : List Int) (bt mr : Nat) (B : Option Addr) (kb : Nat) (D : Option Addr) (kd : Nat) (f : Int → Option Value) (w : World) : Prop where
  tbl : ∃ T : Array Value, TF T (.int .i64 (xs.length : Int)) (.slice B xs.length kb) (.map (some mr)) (.slice D xs.length kd) (.pointer (some ⟨W.heap.size, 0, none⟩)) ∧ w.heap[bt]? = some (.cells T 153 (0, 0))
  sty : w.heap[W.heap.size]? = some (.cells S 108 (0, 0))
  map : imap w .i64 mr f
  row : Own w W.heap.size (.slice B xs.length kb) xs
  bools : ∃ cs, w.ownsRow W.heap.size 4 1 (.slice D xs.length kd) xs.length cs
  lbt : W.heap.size ≤ bt
  lmr : W.heap.size ≤ mr
  below : Below W.heap.size W w
def cfgV (h : Bool) : Array Value := #[.string ⟨#[]⟩, .int .i64 0, .int .i64 0, .int .i64 0, .int .i64 0, .bool false, .slice none 0 0, .slice none 0 0, .slice none 0 0, .bool h, .int .i64 0, .int .i64 0, .int .i64 0, .int .i64 0, .nilFunc, .int .i64 0]
theorem Z1.cell {W : World} {S : Array Value} {xs : List Int} {bt mr : Nat} {B : Option Addr} {kb : Nat} {D : Option Addr} {kd : Nat} {f : Int → Option Value} {w : World} (h : Z1 W S xs bt mr B kb D kd f w) :
    w.cell? ⟨bt, 14, none⟩ = some (.int .i64 (xs.length : Int)) ∧ w.cell? ⟨bt, 11, none⟩ = some (.slice B xs.length kb) ∧ w.cell? ⟨bt, 6, none⟩ = some (.map (some mr)) ∧ w.cell? ⟨bt, 4, none⟩ = some (.slice D xs.length kd) := by
  obtain ⟨T, ht, hb⟩ := h.tbl
  exact ⟨(cell_of_row _ _ _ _ _ _ hb).trans ht.f14, (cell_of_row _ _ _ _ _ _ hb).trans ht.f11, (cell_of_row _ _ _ _ _ _ hb).trans ht.f6, (cell_of_row _ _ _ _ _ _ hb).trans ht.f4⟩
theorem type_ne {w : World} {a b : Nat} {X Y : Array Value} {s t : TypeId} {f g : Nat × Nat} (h1 : w.heap[a]? = some (.cells X s f)) (h2 : w.heap[b]? = some (.cells Y t g)) (hne : s ≠ t) : a ≠ b := fun e => by
  subst e
  rw [h1] at h2
  injection h2 with h2
  injection h2 with _ h2
  exact hne h2
theorem set_block (w : World) (g i j : Nat) (u : Value) (h : j ≠ g) : (w.setCell ⟨g, i, none⟩ u).heap[j]? = w.heap[j]? := by
  simp [World.setCell, Array.getElem?_modify, Ne.symm h]
theorem Z1.setBool {W : World} {S : Array Value} {xs : List Int} {bt mr : Nat} {B : Option Addr} {kb : Nat} {D : Option Addr} {kd : Nat} {f : Int → Option Value} {w : World} (h : Z1 W S xs bt mr B kb D kd f w) (i : Nat) (hi : i < xs.length) :
    ∃ g u, D = some ⟨g, 0, none⟩ ∧ w.cell? ⟨g, i, none⟩ = some u ∧ w.frozen? ⟨g, i, none⟩ = false ∧ Z1 W S xs bt mr B kb D kd f (w.setCell ⟨g, i, none⟩ (.bool true)) := by
  obtain ⟨cs, hb⟩ := h.bools
  obtain ⟨g, cap, e, hgb, hgl⟩ := hb.form (by omega)
  injection e with e1 e2 e3
  subst e1
  subst e3
  have hlen : cs.length = xs.length := by have := hb.1; omega
  have hc := hb.cells (g := g) rfl i cs[i] (List.getElem?_eq_getElem (by omega))
  rw [add_plain] at hc
  obtain ⟨cells, hty⟩ := own_typed hb g rfl
  obtain ⟨T, ht, hbt⟩ := h.tbl
  have n1 := type_ne hbt hty (by decide)
  have n2 := type_ne h.sty hty (by decide)
  have n3 : mr ≠ g := fun e => by
    subst e
    obtain ⟨es, ck, hm, _⟩ := h.map
    rw [hty] at hm
    cases hm
  have hs := hb.stored i (.bool true)
  refine ⟨g, _, rfl, hc, by simp [World.frozen?, hty], ⟨⟨T, ht, (set_block w g i bt _ n1).trans hbt⟩, (set_block w g i _ _ n2).trans h.sty, imap_setCell h.map _ (Ne.symm n3) _, ?_, ⟨_, hs.1⟩, h.lbt, h.lmr, h.below.setCell hgb _⟩⟩
  exact own_move h.row (fun k hk => set_block w g i k _ (fun e => by
    subst e
    obtain ⟨c2, h2⟩ := own_typed h.row k hk
    exact type_ne h2 hty (by decide) rfl))
theorem Z1.putMap {W : World} {S : Array Value} {xs : List Int} {bt mr : Nat} {B : Option Addr} {kb : Nat} {D : Option Addr} {kd : Nat} {f f' : Int → Option Value} {w w1 w2 : World} (h : Z1 W S xs bt mr B kb D kd f w) (hb : Below w.heap.size w w1) (hm : imap w2 .i64 mr f') (hg : w1.grownBy w2 (some mr)) : Z1 W S xs bt mr B kb D kd f' w2 := by
  obtain ⟨T, ht, hbt⟩ := h.tbl
  have keep : ∀ (j : Nat) (X : Array Value) (t : TypeId) (fr : Nat × Nat), w.heap[j]? = some (Obj.cells X t fr) → w2.heap[j]? = some (Obj.cells X t fr) := fun j X t fr hj => by
    have hlt : j < w.heap.size := (Array.getElem?_eq_some_iff.1 hj).1
    have h1 := (hb.block j hlt).trans hj
    refine (hg.block j (Nat.lt_of_lt_of_le hlt hb.size) (fun e => ?_)).trans h1
    injection e with e
    subst e
    obtain ⟨es, ck, hm2, _⟩ := h.map
    rw [hj] at hm2
    cases hm2
  obtain ⟨cs, hbo⟩ := h.bools
  refine ⟨⟨T, ht, keep _ _ _ _ hbt⟩, keep _ _ _ _ h.sty, hm, own_move h.row (fun k hk => ?_), ⟨cs, own_move hbo (fun k hk => ?_)⟩, h.lbt, h.lmr, (h.below.trans (hb.mono h.below.size)).grown hg (Nat.le_trans h.below.size hb.size) (fun k hk => by injection hk with hk; rw [← hk]; exact h.lmr)⟩
  · obtain ⟨c, hc⟩ := own_typed h.row k hk
    rw [hc]; exact keep _ _ _ _ hc
  · obtain ⟨c, hc⟩ := own_typed hbo k hk
    rw [hc]; exact keep _ _ _ _ hc
def mapF (hs : Nat → Bool) (k : Nat) : Int → Option Value := fun i => if 0 ≤ i ∧ i < k then some (.agg (cfgV (hs i.toNat))) else none
theorem mapF_step (hs : Nat → Bool) (k : Nat) : (fun i => if i = (k : Int) then some (.agg (cfgV (hs k))) else mapF hs k i) = mapF hs (k + 1) := by
  funext i
  unfold mapF
  by_cases e : i = (k : Int)
  · subst e
    rw [if_pos rfl, if_pos ⟨by omega, by omega⟩]
    simp
  · rw [if_neg e]
    by_cases e2 : 0 ≤ i ∧ i < (k : Int)
    · rw [if_pos e2, if_pos ⟨by omega, by omega⟩]
    · rw [if_neg e2, if_neg (by omega)]
theorem step_b {W w w' : World} (h : Below W.heap.size W w) (b : Below w.heap.size w w') : Below W.heap.size W w' := h.trans (b.mono h.size)
set_option maxHeartbeats 16000000 in
theorem cols_c (A : Option Addr) (cw : Nat) (xs : List Int) (Ac : Option Addr) (m cc : Nat) (S : Array Value) (W : World) (hl : xs.length ≤ 1000) (hx : CI W A xs) (hs : Nat → Bool) (hm : m ≤ 1000) (g : Nat) (hAc : 0 < m → Ac = some ⟨g, 0, none⟩) (hcf : ∀ j t u, j < m → (cfgV (hs j))[t]? = some u → W.cell? ⟨g, j * 16 + t, none⟩ = some u) :
    Calls Try.prog 61 #[.slice A xs.length cw, .slice Ac m cc, .agg S] W fun e w' => ∃ (bt mr : Nat) (B : Option Addr) (kb : Nat) (D : Option Addr) (kd : Nat), e = .returned (.pointer (some ⟨bt, 0, none⟩)) ∧ Z1 W S xs bt mr B kb D kd (mapF hs m) w' := by
  have HCF := Aside0.mk hcf
  have HAC := Aside0.mk hAc
  clear hcf hAc
  have HQ : ∀ W', Below W.heap.size W W' → CI W' A xs := fun W' h => Kd.C_below hx h
  obtain ⟨T, hT, hTF⟩ := T_ex
  clear hx
  go_enter Try.func61, Try.ntmps61
  go_upto_region 1 with fail
  go_cut [7] from 11 to 21 (fun s7 wx => ∃ (bt mr : Nat) (B : Option Addr) (kb : Nat) (D : Option Addr) (kd : Nat), s7 = .pointer (some ⟨bt, 0, none⟩) ∧ Z1 W S xs bt mr B kb D kd (fun _ => none) wx)
  case first =>
    refine wp_region_any (by kernel_rfl) ?_
    change wpAny _ _ _ _ _ _ _ (World.drew _)
    have HS0 : (World.drew (W.alloc (Obj.cells S 108))).heap[W.heap.size]? = some (.cells S 108 (0, 0)) := heap_alloc_new W _
    have c0 : Below W.heap.size W (World.drew (W.alloc (Obj.cells S 108))) := below_drew1 (below_alloc (Below.refl _ _) _)
    have hlt0 : W.heap.size < (World.drew (W.alloc (Obj.cells S 108))).heap.size := (Array.getElem?_eq_some_iff.1 HS0).1
    generalize World.drew (W.alloc (Obj.cells S 108)) = w0 at HS0 c0 hlt0 ⊢
    refine wpAny_take (i := 0) (oi := { dst := some 11, op := Op.move (Operand.tmp 0), type := 29, pos := "zz_doors.go:65", after := #[], guard := none }) (v := (.slice A xs.length cw)) (by kernel_rfl) (by kernel_rfl) (by kernel_rfl) (by kernel_rfl) (fun _ _ _ h => h) (Or.inl ⟨by rfl, ?_⟩) ?_
    · intro w; go_simp
    refine wpAny_take (i := 1) (oi := { dst := some 12, op := Op.call { callee := Callee.builtin Builtin.len, args := #[Operand.tmp 11], argTypes := #[29] }, type := 3, pos := "zz_doors.go:65", after := #[{ on := 0, ground := Ground.data }], guard := none }) (v := (.int .i64 (xs.length : Int))) (by kernel_rfl) (by kernel_rfl) (by kernel_rfl) (by kernel_rfl) (fun _ _ _ h => h) (Or.inl ⟨by rfl, ?_⟩) ?_
    · intro w; go_simp
    refine wpAny_take (i := 3) (oi := { dst := some 14, op := Op.move (Operand.tmp 0), type := 29, pos := "zz_doors.go:65", after := #[], guard := none }) (v := (.slice A xs.length cw)) (by kernel_rfl) (by kernel_rfl) (by kernel_rfl) (by kernel_rfl) (fun _ _ _ h => h) (Or.inl ⟨by rfl, ?_⟩) ?_
    · intro w; go_simp
    refine wpAny_take (i := 6) (oi := { dst := some 17, op := Op.move (Operand.tmp 0), type := 29, pos := "zz_doors.go:65", after := #[], guard := none }) (v := (.slice A xs.length cw)) (by kernel_rfl) (by kernel_rfl) (by kernel_rfl) (by kernel_rfl) (fun _ _ _ h => h) (Or.inl ⟨by rfl, ?_⟩) ?_
    · intro w; go_simp
    refine wpAny_take (i := 7) (oi := { dst := some 18, op := Op.call { callee := Callee.builtin Builtin.len, args := #[Operand.tmp 17], argTypes := #[29] }, type := 3, pos := "zz_doors.go:65", after := #[{ on := 6, ground := Ground.data }], guard := none }) (v := (.int .i64 (xs.length : Int))) (by kernel_rfl) (by kernel_rfl) (by kernel_rfl) (by kernel_rfl) (fun _ _ _ h => h) (Or.inl ⟨by rfl, ?_⟩) ?_
    · intro w; go_simp
    simp only [Act.put, List.setIfInBounds_toArray, List.set_cons_zero, List.set_cons_succ]
    refine wpAny_ready (rs := [2, 5, 8]) (by kernel_rfl) (by simp) ?_
    refine readyCons (o := { dst := some 13, op := Op.buildSlice 29 0 #[], type := 29, pos := "zz_doors.go:65", after := #[], guard := none }) (by kernel_rfl) (fun K hK => ?_) ?_
    · refine st2 rfl rfl (fun g w1 h13 b1 => hK _ _ ?_)
      have h13w := own_weaken h13 c0.size
      have c1 := step_b c0 b1
      clear hK K
      simp only [Act.put, List.setIfInBounds_toArray, List.set_cons_zero, List.set_cons_succ]
      refine wpAny_ready (rs := [4, 5, 8]) (by kernel_rfl) (by simp) ?_
      refine readyCons (o := { dst := some 15, op := Op.call { callee := Callee.builtin Builtin.append, args := #[Operand.tmp 13, Operand.tmp 14], argTypes := #[29, 29] }, type := 29, pos := "zz_doors.go:65", after := #[{ on := 2, ground := Ground.data }, { on := 3, ground := Ground.data }], guard := none }) (by kernel_rfl) (fun K hK => ?_) ?_
      · refine st4 rfl (.tmp 13) (.tmp 14) rfl W.heap.size g xs A cw (by simp [Act.eval]) (by simp [Act.eval]) h13w (HQ _ c1) c1.size (by omega) (fun B kb w2 hrow b2 => hK _ _ ?_)
        have c2 := step_b c1 b2
        clear hK K
        simp only [Act.put, List.setIfInBounds_toArray, List.set_cons_zero, List.set_cons_succ]
        refine wpAny_ready (rs := [5, 8]) (by kernel_rfl) (by simp) ?_
        refine readyCons (o := { dst := some 16, op := Op.makeMap 133 none, type := 133, pos := "zz_doors.go:65", after := #[], guard := none }) (by kernel_rfl) (fun K hK => ?_) ?_
        · refine st5 rfl rfl (fun mr w3 hmap hmr0 b3 => hK _ _ ?_)
          have hmr := Nat.le_trans c2.size hmr0
          have c3 := step_b c2 b3
          clear hK K
          simp only [Act.put, List.setIfInBounds_toArray, List.set_cons_zero, List.set_cons_succ]
          refine wpAny_ready (rs := [8]) (by kernel_rfl) (by simp) ?_
          refine readyCons (o := { dst := some 19, op := Op.makeSlice 44 (Operand.tmp 18) (Operand.tmp 18), type := 44, pos := "zz_doors.go:65", after := #[{ on := 7, ground := Ground.data }, { on := 7, ground := Ground.data }], guard := none }) (by kernel_rfl) (fun K hK => ?_) ?_
          · refine st8 rfl (.tmp 18) rfl xs.length (by omega) (by simp [Act.eval]) (fun D kd w4 hbl b4 => hK _ _ ?_)
            obtain ⟨bcs, hbl2⟩ := hbl
            have hbools := own_weaken hbl2 c3.size
            have c4 := step_b c3 b4
            clear hK K
            simp only [Act.put, List.setIfInBounds_toArray, List.set_cons_zero, List.set_cons_succ]
            refine wpAny_ready (rs := [9]) (by kernel_rfl) (by simp) ?_
            refine readyCons (o := { dst := some 20, op := Op.build 153 #[(14, Operand.tmp 12), (11, Operand.tmp 15), (6, Operand.tmp 16), (4, Operand.tmp 19), (37, Operand.tmp 5)], type := 153, pos := "zz_doors.go:65", after := #[{ on := 1, ground := Ground.data }, { on := 4, ground := Ground.data }, { on := 5, ground := Ground.data }, { on := 8, ground := Ground.data }], guard := none }) (by kernel_rfl) (fun K hK => ?_) AllReady.nil
            refine st9 rfl (T (xs.length : Int) B xs.length kb mr D xs.length kd ⟨W.heap.size, 0, none⟩) _ rfl (by simp [Act.eval, hT]) (hK _ _ ?_)
            simp only [Act.put, List.setIfInBounds_toArray, List.set_cons_zero, List.set_cons_succ]
            refine wpAny_ready (rs := [10]) (by kernel_rfl) (by simp) ?_
            refine readyCons (o := { dst := some 21, op := Op.box 153 (Operand.tmp 20), type := 131, pos := "zz_doors.go:65", after := #[{ on := 9, ground := Ground.data }], guard := none }) (by kernel_rfl) (fun K hK => ?_) AllReady.nil
            refine st10 rfl (.tmp 20) rfl (T (xs.length : Int) B xs.length kb mr D xs.length kd ⟨W.heap.size, 0, none⟩) (by simp [Act.eval]) (fun bt w5 htb hbt b5 => hK _ _ ?_)
            simp only [Act.put, List.setIfInBounds_toArray, List.set_cons_zero, List.set_cons_succ]
            refine wpAny_ready (rs := [11]) (by kernel_rfl) (by simp) ?_
            refine readyCons (o := { dst := some 7, op := Op.assign (Operand.tmp 21), type := 131, pos := "zz_doors.go:65", after := #[{ on := 10, ground := Ground.data }, { on := 4, ground := Ground.chain }, { on := 0, ground := Ground.phase }, { on := 1, ground := Ground.phase }, { on := 2, ground := Ground.phase }, { on := 3, ground := Ground.phase }, { on := 4, ground := Ground.phase }, { on := 5, ground := Ground.phase }, { on := 6, ground := Ground.phase }, { on := 7, ground := Ground.phase }, { on := 8, ground := Ground.phase }, { on := 9, ground := Ground.phase }, { on := 10, ground := Ground.phase }], guard := none }) (by kernel_rfl) (fun K hK => ?_) AllReady.nil
            refine st11 rfl (.tmp 21) rfl (.pointer (some ⟨bt, 0, none⟩)) (by simp [Act.eval]) (hK _ _ ?_)
            refine wpAny_done (by kernel_rfl) ?_ _
            simp only [Act.put, List.setIfInBounds_toArray, List.set_cons_zero, List.set_cons_succ]
            have c5 := step_b c4 b5
            have ZZ : Aside0 (Z1 W S xs bt mr B kb D kd (fun _ => none) w5) := ⟨⟨T (xs.length : Int) B xs.length kb mr D xs.length kd ⟨W.heap.size, 0, none⟩, hTF _ _ _ _ _ _ _ _ _, htb⟩, ((b5.block _ (Nat.lt_of_lt_of_le (Nat.lt_of_lt_of_le (Nat.lt_of_lt_of_le (Nat.lt_of_lt_of_le hlt0 b1.size) b2.size) b3.size) b4.size)).trans ((b4.block _ (Nat.lt_of_lt_of_le (Nat.lt_of_lt_of_le (Nat.lt_of_lt_of_le hlt0 b1.size) b2.size) b3.size)).trans ((b3.block _ (Nat.lt_of_lt_of_le (Nat.lt_of_lt_of_le hlt0 b1.size) b2.size)).trans ((b2.block _ (Nat.lt_of_lt_of_le hlt0 b1.size)).trans ((b1.block _ hlt0).trans HS0))))), (imap_below (imap_below hmap b4 (imap_lt hmap)) b5 (imap_lt (imap_below hmap b4 (imap_lt hmap)))), (pw_own_below (pw_own_below (pw_own_below hrow b3) b4) b5), ⟨_, (pw_own_below hbools b5)⟩, Nat.le_trans c4.size hbt, hmr, c5⟩
            go_wp2_with fail
            go_meet
            exact ⟨bt, mr, B, kb, D, kd, rfl, ZZ.out⟩
          exact AllReady.nil
        refine readyCons (o := { dst := some 19, op := Op.makeSlice 44 (Operand.tmp 18) (Operand.tmp 18), type := 44, pos := "zz_doors.go:65", after := #[{ on := 7, ground := Ground.data }, { on := 7, ground := Ground.data }], guard := none }) (by kernel_rfl) (fun K hK => ?_) ?_
        · refine st8 rfl (.tmp 18) rfl xs.length (by omega) (by simp [Act.eval]) (fun D kd w3 hbl b3 => hK _ _ ?_)
          obtain ⟨bcs, hbl2⟩ := hbl
          have hbools := own_weaken hbl2 c2.size
          have c3 := step_b c2 b3
          clear hK K
          simp only [Act.put, List.setIfInBounds_toArray, List.set_cons_zero, List.set_cons_succ]
          refine wpAny_ready (rs := [5]) (by kernel_rfl) (by simp) ?_
          refine readyCons (o := { dst := some 16, op := Op.makeMap 133 none, type := 133, pos := "zz_doors.go:65", after := #[], guard := none }) (by kernel_rfl) (fun K hK => ?_) ?_
          · refine st5 rfl rfl (fun mr w4 hmap hmr0 b4 => hK _ _ ?_)
            have hmr := Nat.le_trans c3.size hmr0
            have c4 := step_b c3 b4
            clear hK K
            simp only [Act.put, List.setIfInBounds_toArray, List.set_cons_zero, List.set_cons_succ]
            refine wpAny_ready (rs := [9]) (by kernel_rfl) (by simp) ?_
            refine readyCons (o := { dst := some 20, op := Op.build 153 #[(14, Operand.tmp 12), (11, Operand.tmp 15), (6, Operand.tmp 16), (4, Operand.tmp 19), (37, Operand.tmp 5)], type := 153, pos := "zz_doors.go:65", after := #[{ on := 1, ground := Ground.data }, { on := 4, ground := Ground.data }, { on := 5, ground := Ground.data }, { on := 8, ground := Ground.data }], guard := none }) (by kernel_rfl) (fun K hK => ?_) AllReady.nil
            refine st9 rfl (T (xs.length : Int) B xs.length kb mr D xs.length kd ⟨W.heap.size, 0, none⟩) _ rfl (by simp [Act.eval, hT]) (hK _ _ ?_)
            simp only [Act.put, List.setIfInBounds_toArray, List.set_cons_zero, List.set_cons_succ]
            refine wpAny_ready (rs := [10]) (by kernel_rfl) (by simp) ?_
            refine readyCons (o := { dst := some 21, op := Op.box 153 (Operand.tmp 20), type := 131, pos := "zz_doors.go:65", after := #[{ on := 9, ground := Ground.data }], guard := none }) (by kernel_rfl) (fun K hK => ?_) AllReady.nil
            refine st10 rfl (.tmp 20) rfl (T (xs.length : Int) B xs.length kb mr D xs.length kd ⟨W.heap.size, 0, none⟩) (by simp [Act.eval]) (fun bt w5 htb hbt b5 => hK _ _ ?_)
            simp only [Act.put, List.setIfInBounds_toArray, List.set_cons_zero, List.set_cons_succ]
            refine wpAny_ready (rs := [11]) (by kernel_rfl) (by simp) ?_
            refine readyCons (o := { dst := some 7, op := Op.assign (Operand.tmp 21), type := 131, pos := "zz_doors.go:65", after := #[{ on := 10, ground := Ground.data }, { on := 4, ground := Ground.chain }, { on := 0, ground := Ground.phase }, { on := 1, ground := Ground.phase }, { on := 2, ground := Ground.phase }, { on := 3, ground := Ground.phase }, { on := 4, ground := Ground.phase }, { on := 5, ground := Ground.phase }, { on := 6, ground := Ground.phase }, { on := 7, ground := Ground.phase }, { on := 8, ground := Ground.phase }, { on := 9, ground := Ground.phase }, { on := 10, ground := Ground.phase }], guard := none }) (by kernel_rfl) (fun K hK => ?_) AllReady.nil
            refine st11 rfl (.tmp 21) rfl (.pointer (some ⟨bt, 0, none⟩)) (by simp [Act.eval]) (hK _ _ ?_)
            refine wpAny_done (by kernel_rfl) ?_ _
            simp only [Act.put, List.setIfInBounds_toArray, List.set_cons_zero, List.set_cons_succ]
            have c5 := step_b c4 b5
            have ZZ : Aside0 (Z1 W S xs bt mr B kb D kd (fun _ => none) w5) := ⟨⟨T (xs.length : Int) B xs.length kb mr D xs.length kd ⟨W.heap.size, 0, none⟩, hTF _ _ _ _ _ _ _ _ _, htb⟩, ((b5.block _ (Nat.lt_of_lt_of_le (Nat.lt_of_lt_of_le (Nat.lt_of_lt_of_le (Nat.lt_of_lt_of_le hlt0 b1.size) b2.size) b3.size) b4.size)).trans ((b4.block _ (Nat.lt_of_lt_of_le (Nat.lt_of_lt_of_le (Nat.lt_of_lt_of_le hlt0 b1.size) b2.size) b3.size)).trans ((b3.block _ (Nat.lt_of_lt_of_le (Nat.lt_of_lt_of_le hlt0 b1.size) b2.size)).trans ((b2.block _ (Nat.lt_of_lt_of_le hlt0 b1.size)).trans ((b1.block _ hlt0).trans HS0))))), (imap_below hmap b5 (imap_lt hmap)), (pw_own_below (pw_own_below (pw_own_below hrow b3) b4) b5), ⟨_, (pw_own_below (pw_own_below hbools b4) b5)⟩, Nat.le_trans c4.size hbt, hmr, c5⟩
            go_wp2_with fail
            go_meet
            exact ⟨bt, mr, B, kb, D, kd, rfl, ZZ.out⟩
          exact AllReady.nil
        exact AllReady.nil
      refine readyCons (o := { dst := some 16, op := Op.makeMap 133 none, type := 133, pos := "zz_doors.go:65", after := #[], guard := none }) (by kernel_rfl) (fun K hK => ?_) ?_
      · refine st5 rfl rfl (fun mr w2 hmap hmr0 b2 => hK _ _ ?_)
        have hmr := Nat.le_trans c1.size hmr0
        have c2 := step_b c1 b2
        clear hK K
        simp only [Act.put, List.setIfInBounds_toArray, List.set_cons_zero, List.set_cons_succ]
        refine wpAny_ready (rs := [4, 8]) (by kernel_rfl) (by simp) ?_
        refine readyCons (o := { dst := some 15, op := Op.call { callee := Callee.builtin Builtin.append, args := #[Operand.tmp 13, Operand.tmp 14], argTypes := #[29, 29] }, type := 29, pos := "zz_doors.go:65", after := #[{ on := 2, ground := Ground.data }, { on := 3, ground := Ground.data }], guard := none }) (by kernel_rfl) (fun K hK => ?_) ?_
        · refine st4 rfl (.tmp 13) (.tmp 14) rfl W.heap.size g xs A cw (by simp [Act.eval]) (by simp [Act.eval]) (pw_own_below h13w b2) (HQ _ c2) c2.size (by omega) (fun B kb w3 hrow b3 => hK _ _ ?_)
          have c3 := step_b c2 b3
          clear hK K
          simp only [Act.put, List.setIfInBounds_toArray, List.set_cons_zero, List.set_cons_succ]
          refine wpAny_ready (rs := [8]) (by kernel_rfl) (by simp) ?_
          refine readyCons (o := { dst := some 19, op := Op.makeSlice 44 (Operand.tmp 18) (Operand.tmp 18), type := 44, pos := "zz_doors.go:65", after := #[{ on := 7, ground := Ground.data }, { on := 7, ground := Ground.data }], guard := none }) (by kernel_rfl) (fun K hK => ?_) ?_
          · refine st8 rfl (.tmp 18) rfl xs.length (by omega) (by simp [Act.eval]) (fun D kd w4 hbl b4 => hK _ _ ?_)
            obtain ⟨bcs, hbl2⟩ := hbl
            have hbools := own_weaken hbl2 c3.size
            have c4 := step_b c3 b4
            clear hK K
            simp only [Act.put, List.setIfInBounds_toArray, List.set_cons_zero, List.set_cons_succ]
            refine wpAny_ready (rs := [9]) (by kernel_rfl) (by simp) ?_
            refine readyCons (o := { dst := some 20, op := Op.build 153 #[(14, Operand.tmp 12), (11, Operand.tmp 15), (6, Operand.tmp 16), (4, Operand.tmp 19), (37, Operand.tmp 5)], type := 153, pos := "zz_doors.go:65", after := #[{ on := 1, ground := Ground.data }, { on := 4, ground := Ground.data }, { on := 5, ground := Ground.data }, { on := 8, ground := Ground.data }], guard := none }) (by kernel_rfl) (fun K hK => ?_) AllReady.nil
            refine st9 rfl (T (xs.length : Int) B xs.length kb mr D xs.length kd ⟨W.heap.size, 0, none⟩) _ rfl (by simp [Act.eval, hT]) (hK _ _ ?_)
            simp only [Act.put, List.setIfInBounds_toArray, List.set_cons_zero, List.set_cons_succ]
            refine wpAny_ready (rs := [10]) (by kernel_rfl) (by simp) ?_
            refine readyCons (o := { dst := some 21, op := Op.box 153 (Operand.tmp 20), type := 131, pos := "zz_doors.go:65", after := #[{ on := 9, ground := Ground.data }], guard := none }) (by kernel_rfl) (fun K hK => ?_) AllReady.nil
            refine st10 rfl (.tmp 20) rfl (T (xs.length : Int) B xs.length kb mr D xs.length kd ⟨W.heap.size, 0, none⟩) (by simp [Act.eval]) (fun bt w5 htb hbt b5 => hK _ _ ?_)
            simp only [Act.put, List.setIfInBounds_toArray, List.set_cons_zero, List.set_cons_succ]
            refine wpAny_ready (rs := [11]) (by kernel_rfl) (by simp) ?_
            refine readyCons (o := { dst := some 7, op := Op.assign (Operand.tmp 21), type := 131, pos := "zz_doors.go:65", after := #[{ on := 10, ground := Ground.data }, { on := 4, ground := Ground.chain }, { on := 0, ground := Ground.phase }, { on := 1, ground := Ground.phase }, { on := 2, ground := Ground.phase }, { on := 3, ground := Ground.phase }, { on := 4, ground := Ground.phase }, { on := 5, ground := Ground.phase }, { on := 6, ground := Ground.phase }, { on := 7, ground := Ground.phase }, { on := 8, ground := Ground.phase }, { on := 9, ground := Ground.phase }, { on := 10, ground := Ground.phase }], guard := none }) (by kernel_rfl) (fun K hK => ?_) AllReady.nil
            refine st11 rfl (.tmp 21) rfl (.pointer (some ⟨bt, 0, none⟩)) (by simp [Act.eval]) (hK _ _ ?_)
            refine wpAny_done (by kernel_rfl) ?_ _
            simp only [Act.put, List.setIfInBounds_toArray, List.set_cons_zero, List.set_cons_succ]
            have c5 := step_b c4 b5
            have ZZ : Aside0 (Z1 W S xs bt mr B kb D kd (fun _ => none) w5) := ⟨⟨T (xs.length : Int) B xs.length kb mr D xs.length kd ⟨W.heap.size, 0, none⟩, hTF _ _ _ _ _ _ _ _ _, htb⟩, ((b5.block _ (Nat.lt_of_lt_of_le (Nat.lt_of_lt_of_le (Nat.lt_of_lt_of_le (Nat.lt_of_lt_of_le hlt0 b1.size) b2.size) b3.size) b4.size)).trans ((b4.block _ (Nat.lt_of_lt_of_le (Nat.lt_of_lt_of_le (Nat.lt_of_lt_of_le hlt0 b1.size) b2.size) b3.size)).trans ((b3.block _ (Nat.lt_of_lt_of_le (Nat.lt_of_lt_of_le hlt0 b1.size) b2.size)).trans ((b2.block _ (Nat.lt_of_lt_of_le hlt0 b1.size)).trans ((b1.block _ hlt0).trans HS0))))), (imap_below (imap_below (imap_below hmap b3 (imap_lt hmap)) b4 (imap_lt (imap_below hmap b3 (imap_lt hmap)))) b5 (imap_lt (imap_below (imap_below hmap b3 (imap_lt hmap)) b4 (imap_lt (imap_below hmap b3 (imap_lt hmap)))))), (pw_own_below (pw_own_below hrow b4) b5), ⟨_, (pw_own_below hbools b5)⟩, Nat.le_trans c4.size hbt, hmr, c5⟩
            go_wp2_with fail
            go_meet
            exact ⟨bt, mr, B, kb, D, kd, rfl, ZZ.out⟩
          exact AllReady.nil
        refine readyCons (o := { dst := some 19, op := Op.makeSlice 44 (Operand.tmp 18) (Operand.tmp 18), type := 44, pos := "zz_doors.go:65", after := #[{ on := 7, ground := Ground.data }, { on := 7, ground := Ground.data }], guard := none }) (by kernel_rfl) (fun K hK => ?_) ?_
        · refine st8 rfl (.tmp 18) rfl xs.length (by omega) (by simp [Act.eval]) (fun D kd w3 hbl b3 => hK _ _ ?_)
          obtain ⟨bcs, hbl2⟩ := hbl
          have hbools := own_weaken hbl2 c2.size
          have c3 := step_b c2 b3
          clear hK K
          simp only [Act.put, List.setIfInBounds_toArray, List.set_cons_zero, List.set_cons_succ]
          refine wpAny_ready (rs := [4]) (by kernel_rfl) (by simp) ?_
          refine readyCons (o := { dst := some 15, op := Op.call { callee := Callee.builtin Builtin.append, args := #[Operand.tmp 13, Operand.tmp 14], argTypes := #[29, 29] }, type := 29, pos := "zz_doors.go:65", after := #[{ on := 2, ground := Ground.data }, { on := 3, ground := Ground.data }], guard := none }) (by kernel_rfl) (fun K hK => ?_) ?_
          · refine st4 rfl (.tmp 13) (.tmp 14) rfl W.heap.size g xs A cw (by simp [Act.eval]) (by simp [Act.eval]) (pw_own_below (pw_own_below h13w b2) b3) (HQ _ c3) c3.size (by omega) (fun B kb w4 hrow b4 => hK _ _ ?_)
            have c4 := step_b c3 b4
            clear hK K
            simp only [Act.put, List.setIfInBounds_toArray, List.set_cons_zero, List.set_cons_succ]
            refine wpAny_ready (rs := [9]) (by kernel_rfl) (by simp) ?_
            refine readyCons (o := { dst := some 20, op := Op.build 153 #[(14, Operand.tmp 12), (11, Operand.tmp 15), (6, Operand.tmp 16), (4, Operand.tmp 19), (37, Operand.tmp 5)], type := 153, pos := "zz_doors.go:65", after := #[{ on := 1, ground := Ground.data }, { on := 4, ground := Ground.data }, { on := 5, ground := Ground.data }, { on := 8, ground := Ground.data }], guard := none }) (by kernel_rfl) (fun K hK => ?_) AllReady.nil
            refine st9 rfl (T (xs.length : Int) B xs.length kb mr D xs.length kd ⟨W.heap.size, 0, none⟩) _ rfl (by simp [Act.eval, hT]) (hK _ _ ?_)
            simp only [Act.put, List.setIfInBounds_toArray, List.set_cons_zero, List.set_cons_succ]
            refine wpAny_ready (rs := [10]) (by kernel_rfl) (by simp) ?_
            refine readyCons (o := { dst := some 21, op := Op.box 153 (Operand.tmp 20), type := 131, pos := "zz_doors.go:65", after := #[{ on := 9, ground := Ground.data }], guard := none }) (by kernel_rfl) (fun K hK => ?_) AllReady.nil
            refine st10 rfl (.tmp 20) rfl (T (xs.length : Int) B xs.length kb mr D xs.length kd ⟨W.heap.size, 0, none⟩) (by simp [Act.eval]) (fun bt w5 htb hbt b5 => hK _ _ ?_)
            simp only [Act.put, List.setIfInBounds_toArray, List.set_cons_zero, List.set_cons_succ]
            refine wpAny_ready (rs := [11]) (by kernel_rfl) (by simp) ?_
            refine readyCons (o := { dst := some 7, op := Op.assign (Operand.tmp 21), type := 131, pos := "zz_doors.go:65", after := #[{ on := 10, ground := Ground.data }, { on := 4, ground := Ground.chain }, { on := 0, ground := Ground.phase }, { on := 1, ground := Ground.phase }, { on := 2, ground := Ground.phase }, { on := 3, ground := Ground.phase }, { on := 4, ground := Ground.phase }, { on := 5, ground := Ground.phase }, { on := 6, ground := Ground.phase }, { on := 7, ground := Ground.phase }, { on := 8, ground := Ground.phase }, { on := 9, ground := Ground.phase }, { on := 10, ground := Ground.phase }], guard := none }) (by kernel_rfl) (fun K hK => ?_) AllReady.nil
            refine st11 rfl (.tmp 21) rfl (.pointer (some ⟨bt, 0, none⟩)) (by simp [Act.eval]) (hK _ _ ?_)
            refine wpAny_done (by kernel_rfl) ?_ _
            simp only [Act.put, List.setIfInBounds_toArray, List.set_cons_zero, List.set_cons_succ]
            have c5 := step_b c4 b5
            have ZZ : Aside0 (Z1 W S xs bt mr B kb D kd (fun _ => none) w5) := ⟨⟨T (xs.length : Int) B xs.length kb mr D xs.length kd ⟨W.heap.size, 0, none⟩, hTF _ _ _ _ _ _ _ _ _, htb⟩, ((b5.block _ (Nat.lt_of_lt_of_le (Nat.lt_of_lt_of_le (Nat.lt_of_lt_of_le (Nat.lt_of_lt_of_le hlt0 b1.size) b2.size) b3.size) b4.size)).trans ((b4.block _ (Nat.lt_of_lt_of_le (Nat.lt_of_lt_of_le (Nat.lt_of_lt_of_le hlt0 b1.size) b2.size) b3.size)).trans ((b3.block _ (Nat.lt_of_lt_of_le (Nat.lt_of_lt_of_le hlt0 b1.size) b2.size)).trans ((b2.block _ (Nat.lt_of_lt_of_le hlt0 b1.size)).trans ((b1.block _ hlt0).trans HS0))))), (imap_below (imap_below (imap_below hmap b3 (imap_lt hmap)) b4 (imap_lt (imap_below hmap b3 (imap_lt hmap)))) b5 (imap_lt (imap_below (imap_below hmap b3 (imap_lt hmap)) b4 (imap_lt (imap_below hmap b3 (imap_lt hmap)))))), (pw_own_below hrow b5), ⟨_, (pw_own_below (pw_own_below hbools b4) b5)⟩, Nat.le_trans c4.size hbt, hmr, c5⟩
            go_wp2_with fail
            go_meet
            exact ⟨bt, mr, B, kb, D, kd, rfl, ZZ.out⟩
          exact AllReady.nil
        exact AllReady.nil
      refine readyCons (o := { dst := some 19, op := Op.makeSlice 44 (Operand.tmp 18) (Operand.tmp 18), type := 44, pos := "zz_doors.go:65", after := #[{ on := 7, ground := Ground.data }, { on := 7, ground := Ground.data }], guard := none }) (by kernel_rfl) (fun K hK => ?_) ?_
      · refine st8 rfl (.tmp 18) rfl xs.length (by omega) (by simp [Act.eval]) (fun D kd w2 hbl b2 => hK _ _ ?_)
        obtain ⟨bcs, hbl2⟩ := hbl
        have hbools := own_weaken hbl2 c1.size
        have c2 := step_b c1 b2
        clear hK K
        simp only [Act.put, List.setIfInBounds_toArray, List.set_cons_zero, List.set_cons_succ]
        refine wpAny_ready (rs := [4, 5]) (by kernel_rfl) (by simp) ?_
        refine readyCons (o := { dst := some 15, op := Op.call { callee := Callee.builtin Builtin.append, args := #[Operand.tmp 13, Operand.tmp 14], argTypes := #[29, 29] }, type := 29, pos := "zz_doors.go:65", after := #[{ on := 2, ground := Ground.data }, { on := 3, ground := Ground.data }], guard := none }) (by kernel_rfl) (fun K hK => ?_) ?_
        · refine st4 rfl (.tmp 13) (.tmp 14) rfl W.heap.size g xs A cw (by simp [Act.eval]) (by simp [Act.eval]) (pw_own_below h13w b2) (HQ _ c2) c2.size (by omega) (fun B kb w3 hrow b3 => hK _ _ ?_)
          have c3 := step_b c2 b3
          clear hK K
          simp only [Act.put, List.setIfInBounds_toArray, List.set_cons_zero, List.set_cons_succ]
          refine wpAny_ready (rs := [5]) (by kernel_rfl) (by simp) ?_
          refine readyCons (o := { dst := some 16, op := Op.makeMap 133 none, type := 133, pos := "zz_doors.go:65", after := #[], guard := none }) (by kernel_rfl) (fun K hK => ?_) ?_
          · refine st5 rfl rfl (fun mr w4 hmap hmr0 b4 => hK _ _ ?_)
            have hmr := Nat.le_trans c3.size hmr0
            have c4 := step_b c3 b4
            clear hK K
            simp only [Act.put, List.setIfInBounds_toArray, List.set_cons_zero, List.set_cons_succ]
            refine wpAny_ready (rs := [9]) (by kernel_rfl) (by simp) ?_
            refine readyCons (o := { dst := some 20, op := Op.build 153 #[(14, Operand.tmp 12), (11, Operand.tmp 15), (6, Operand.tmp 16), (4, Operand.tmp 19), (37, Operand.tmp 5)], type := 153, pos := "zz_doors.go:65", after := #[{ on := 1, ground := Ground.data }, { on := 4, ground := Ground.data }, { on := 5, ground := Ground.data }, { on := 8, ground := Ground.data }], guard := none }) (by kernel_rfl) (fun K hK => ?_) AllReady.nil
            refine st9 rfl (T (xs.length : Int) B xs.length kb mr D xs.length kd ⟨W.heap.size, 0, none⟩) _ rfl (by simp [Act.eval, hT]) (hK _ _ ?_)
            simp only [Act.put, List.setIfInBounds_toArray, List.set_cons_zero, List.set_cons_succ]
            refine wpAny_ready (rs := [10]) (by kernel_rfl) (by simp) ?_
            refine readyCons (o := { dst := some 21, op := Op.box 153 (Operand.tmp 20), type := 131, pos := "zz_doors.go:65", after := #[{ on := 9, ground := Ground.data }], guard := none }) (by kernel_rfl) (fun K hK => ?_) AllReady.nil
            refine st10 rfl (.tmp 20) rfl (T (xs.length : Int) B xs.length kb mr D xs.length kd ⟨W.heap.size, 0, none⟩) (by simp [Act.eval]) (fun bt w5 htb hbt b5 => hK _ _ ?_)
            simp only [Act.put, List.setIfInBounds_toArray, List.set_cons_zero, List.set_cons_succ]
            refine wpAny_ready (rs := [11]) (by kernel_rfl) (by simp) ?_
            refine readyCons (o := { dst := some 7, op := Op.assign (Operand.tmp 21), type := 131, pos := "zz_doors.go:65", after := #[{ on := 10, ground := Ground.data }, { on := 4, ground := Ground.chain }, { on := 0, ground := Ground.phase }, { on := 1, ground := Ground.phase }, { on := 2, ground := Ground.phase }, { on := 3, ground := Ground.phase }, { on := 4, ground := Ground.phase }, { on := 5, ground := Ground.phase }, { on := 6, ground := Ground.phase }, { on := 7, ground := Ground.phase }, { on := 8, ground := Ground.phase }, { on := 9, ground := Ground.phase }, { on := 10, ground := Ground.phase }], guard := none }) (by kernel_rfl) (fun K hK => ?_) AllReady.nil
            refine st11 rfl (.tmp 21) rfl (.pointer (some ⟨bt, 0, none⟩)) (by simp [Act.eval]) (hK _ _ ?_)
            refine wpAny_done (by kernel_rfl) ?_ _
            simp only [Act.put, List.setIfInBounds_toArray, List.set_cons_zero, List.set_cons_succ]
            have c5 := step_b c4 b5
            have ZZ : Aside0 (Z1 W S xs bt mr B kb D kd (fun _ => none) w5) := ⟨⟨T (xs.length : Int) B xs.length kb mr D xs.length kd ⟨W.heap.size, 0, none⟩, hTF _ _ _ _ _ _ _ _ _, htb⟩, ((b5.block _ (Nat.lt_of_lt_of_le (Nat.lt_of_lt_of_le (Nat.lt_of_lt_of_le (Nat.lt_of_lt_of_le hlt0 b1.size) b2.size) b3.size) b4.size)).trans ((b4.block _ (Nat.lt_of_lt_of_le (Nat.lt_of_lt_of_le (Nat.lt_of_lt_of_le hlt0 b1.size) b2.size) b3.size)).trans ((b3.block _ (Nat.lt_of_lt_of_le (Nat.lt_of_lt_of_le hlt0 b1.size) b2.size)).trans ((b2.block _ (Nat.lt_of_lt_of_le hlt0 b1.size)).trans ((b1.block _ hlt0).trans HS0))))), (imap_below hmap b5 (imap_lt hmap)), (pw_own_below (pw_own_below hrow b4) b5), ⟨_, (pw_own_below (pw_own_below (pw_own_below hbools b3) b4) b5)⟩, Nat.le_trans c4.size hbt, hmr, c5⟩
            go_wp2_with fail
            go_meet
            exact ⟨bt, mr, B, kb, D, kd, rfl, ZZ.out⟩
          exact AllReady.nil
        refine readyCons (o := { dst := some 16, op := Op.makeMap 133 none, type := 133, pos := "zz_doors.go:65", after := #[], guard := none }) (by kernel_rfl) (fun K hK => ?_) ?_
        · refine st5 rfl rfl (fun mr w3 hmap hmr0 b3 => hK _ _ ?_)
          have hmr := Nat.le_trans c2.size hmr0
          have c3 := step_b c2 b3
          clear hK K
          simp only [Act.put, List.setIfInBounds_toArray, List.set_cons_zero, List.set_cons_succ]
          refine wpAny_ready (rs := [4]) (by kernel_rfl) (by simp) ?_
          refine readyCons (o := { dst := some 15, op := Op.call { callee := Callee.builtin Builtin.append, args := #[Operand.tmp 13, Operand.tmp 14], argTypes := #[29, 29] }, type := 29, pos := "zz_doors.go:65", after := #[{ on := 2, ground := Ground.data }, { on := 3, ground := Ground.data }], guard := none }) (by kernel_rfl) (fun K hK => ?_) ?_
          · refine st4 rfl (.tmp 13) (.tmp 14) rfl W.heap.size g xs A cw (by simp [Act.eval]) (by simp [Act.eval]) (pw_own_below (pw_own_below h13w b2) b3) (HQ _ c3) c3.size (by omega) (fun B kb w4 hrow b4 => hK _ _ ?_)
            have c4 := step_b c3 b4
            clear hK K
            simp only [Act.put, List.setIfInBounds_toArray, List.set_cons_zero, List.set_cons_succ]
            refine wpAny_ready (rs := [9]) (by kernel_rfl) (by simp) ?_
            refine readyCons (o := { dst := some 20, op := Op.build 153 #[(14, Operand.tmp 12), (11, Operand.tmp 15), (6, Operand.tmp 16), (4, Operand.tmp 19), (37, Operand.tmp 5)], type := 153, pos := "zz_doors.go:65", after := #[{ on := 1, ground := Ground.data }, { on := 4, ground := Ground.data }, { on := 5, ground := Ground.data }, { on := 8, ground := Ground.data }], guard := none }) (by kernel_rfl) (fun K hK => ?_) AllReady.nil
            refine st9 rfl (T (xs.length : Int) B xs.length kb mr D xs.length kd ⟨W.heap.size, 0, none⟩) _ rfl (by simp [Act.eval, hT]) (hK _ _ ?_)
            simp only [Act.put, List.setIfInBounds_toArray, List.set_cons_zero, List.set_cons_succ]
            refine wpAny_ready (rs := [10]) (by kernel_rfl) (by simp) ?_
            refine readyCons (o := { dst := some 21, op := Op.box 153 (Operand.tmp 20), type := 131, pos := "zz_doors.go:65", after := #[{ on := 9, ground := Ground.data }], guard := none }) (by kernel_rfl) (fun K hK => ?_) AllReady.nil
            refine st10 rfl (.tmp 20) rfl (T (xs.length : Int) B xs.length kb mr D xs.length kd ⟨W.heap.size, 0, none⟩) (by simp [Act.eval]) (fun bt w5 htb hbt b5 => hK _ _ ?_)
            simp only [Act.put, List.setIfInBounds_toArray, List.set_cons_zero, List.set_cons_succ]
            refine wpAny_ready (rs := [11]) (by kernel_rfl) (by simp) ?_
            refine readyCons (o := { dst := some 7, op := Op.assign (Operand.tmp 21), type := 131, pos := "zz_doors.go:65", after := #[{ on := 10, ground := Ground.data }, { on := 4, ground := Ground.chain }, { on := 0, ground := Ground.phase }, { on := 1, ground := Ground.phase }, { on := 2, ground := Ground.phase }, { on := 3, ground := Ground.phase }, { on := 4, ground := Ground.phase }, { on := 5, ground := Ground.phase }, { on := 6, ground := Ground.phase }, { on := 7, ground := Ground.phase }, { on := 8, ground := Ground.phase }, { on := 9, ground := Ground.phase }, { on := 10, ground := Ground.phase }], guard := none }) (by kernel_rfl) (fun K hK => ?_) AllReady.nil
            refine st11 rfl (.tmp 21) rfl (.pointer (some ⟨bt, 0, none⟩)) (by simp [Act.eval]) (hK _ _ ?_)
            refine wpAny_done (by kernel_rfl) ?_ _
            simp only [Act.put, List.setIfInBounds_toArray, List.set_cons_zero, List.set_cons_succ]
            have c5 := step_b c4 b5
            have ZZ : Aside0 (Z1 W S xs bt mr B kb D kd (fun _ => none) w5) := ⟨⟨T (xs.length : Int) B xs.length kb mr D xs.length kd ⟨W.heap.size, 0, none⟩, hTF _ _ _ _ _ _ _ _ _, htb⟩, ((b5.block _ (Nat.lt_of_lt_of_le (Nat.lt_of_lt_of_le (Nat.lt_of_lt_of_le (Nat.lt_of_lt_of_le hlt0 b1.size) b2.size) b3.size) b4.size)).trans ((b4.block _ (Nat.lt_of_lt_of_le (Nat.lt_of_lt_of_le (Nat.lt_of_lt_of_le hlt0 b1.size) b2.size) b3.size)).trans ((b3.block _ (Nat.lt_of_lt_of_le (Nat.lt_of_lt_of_le hlt0 b1.size) b2.size)).trans ((b2.block _ (Nat.lt_of_lt_of_le hlt0 b1.size)).trans ((b1.block _ hlt0).trans HS0))))), (imap_below (imap_below hmap b4 (imap_lt hmap)) b5 (imap_lt (imap_below hmap b4 (imap_lt hmap)))), (pw_own_below hrow b5), ⟨_, (pw_own_below (pw_own_below (pw_own_below hbools b3) b4) b5)⟩, Nat.le_trans c4.size hbt, hmr, c5⟩
            go_wp2_with fail
            go_meet
            exact ⟨bt, mr, B, kb, D, kd, rfl, ZZ.out⟩
          exact AllReady.nil
        exact AllReady.nil
      exact AllReady.nil
    refine readyCons (o := { dst := some 16, op := Op.makeMap 133 none, type := 133, pos := "zz_doors.go:65", after := #[], guard := none }) (by kernel_rfl) (fun K hK => ?_) ?_
    · refine st5 rfl rfl (fun mr w1 hmap hmr0 b1 => hK _ _ ?_)
      have hmr := Nat.le_trans c0.size hmr0
      have c1 := step_b c0 b1
      clear hK K
      simp only [Act.put, List.setIfInBounds_toArray, List.set_cons_zero, List.set_cons_succ]
      refine wpAny_ready (rs := [2, 8]) (by kernel_rfl) (by simp) ?_
      refine readyCons (o := { dst := some 13, op := Op.buildSlice 29 0 #[], type := 29, pos := "zz_doors.go:65", after := #[], guard := none }) (by kernel_rfl) (fun K hK => ?_) ?_
      · refine st2 rfl rfl (fun g w2 h13 b2 => hK _ _ ?_)
        have h13w := own_weaken h13 c1.size
        have c2 := step_b c1 b2
        clear hK K
        simp only [Act.put, List.setIfInBounds_toArray, List.set_cons_zero, List.set_cons_succ]
        refine wpAny_ready (rs := [4, 8]) (by kernel_rfl) (by simp) ?_
        refine readyCons (o := { dst := some 15, op := Op.call { callee := Callee.builtin Builtin.append, args := #[Operand.tmp 13, Operand.tmp 14], argTypes := #[29, 29] }, type := 29, pos := "zz_doors.go:65", after := #[{ on := 2, ground := Ground.data }, { on := 3, ground := Ground.data }], guard := none }) (by kernel_rfl) (fun K hK => ?_) ?_
        · refine st4 rfl (.tmp 13) (.tmp 14) rfl W.heap.size g xs A cw (by simp [Act.eval]) (by simp [Act.eval]) h13w (HQ _ c2) c2.size (by omega) (fun B kb w3 hrow b3 => hK _ _ ?_)
          have c3 := step_b c2 b3
          clear hK K
          simp only [Act.put, List.setIfInBounds_toArray, List.set_cons_zero, List.set_cons_succ]
          refine wpAny_ready (rs := [8]) (by kernel_rfl) (by simp) ?_
          refine readyCons (o := { dst := some 19, op := Op.makeSlice 44 (Operand.tmp 18) (Operand.tmp 18), type := 44, pos := "zz_doors.go:65", after := #[{ on := 7, ground := Ground.data }, { on := 7, ground := Ground.data }], guard := none }) (by kernel_rfl) (fun K hK => ?_) ?_
          · refine st8 rfl (.tmp 18) rfl xs.length (by omega) (by simp [Act.eval]) (fun D kd w4 hbl b4 => hK _ _ ?_)
            obtain ⟨bcs, hbl2⟩ := hbl
            have hbools := own_weaken hbl2 c3.size
            have c4 := step_b c3 b4
            clear hK K
            simp only [Act.put, List.setIfInBounds_toArray, List.set_cons_zero, List.set_cons_succ]
            refine wpAny_ready (rs := [9]) (by kernel_rfl) (by simp) ?_
            refine readyCons (o := { dst := some 20, op := Op.build 153 #[(14, Operand.tmp 12), (11, Operand.tmp 15), (6, Operand.tmp 16), (4, Operand.tmp 19), (37, Operand.tmp 5)], type := 153, pos := "zz_doors.go:65", after := #[{ on := 1, ground := Ground.data }, { on := 4, ground := Ground.data }, { on := 5, ground := Ground.data }, { on := 8, ground := Ground.data }], guard := none }) (by kernel_rfl) (fun K hK => ?_) AllReady.nil
            refine st9 rfl (T (xs.length : Int) B xs.length kb mr D xs.length kd ⟨W.heap.size, 0, none⟩) _ rfl (by simp [Act.eval, hT]) (hK _ _ ?_)
            simp only [Act.put, List.setIfInBounds_toArray, List.set_cons_zero, List.set_cons_succ]
            refine wpAny_ready (rs := [10]) (by kernel_rfl) (by simp) ?_
            refine readyCons (o := { dst := some 21, op := Op.box 153 (Operand.tmp 20), type := 131, pos := "zz_doors.go:65", after := #[{ on := 9, ground := Ground.data }], guard := none }) (by kernel_rfl) (fun K hK => ?_) AllReady.nil
            refine st10 rfl (.tmp 20) rfl (T (xs.length : Int) B xs.length kb mr D xs.length kd ⟨W.heap.size, 0, none⟩) (by simp [Act.eval]) (fun bt w5 htb hbt b5 => hK _ _ ?_)
            simp only [Act.put, List.setIfInBounds_toArray, List.set_cons_zero, List.set_cons_succ]
            refine wpAny_ready (rs := [11]) (by kernel_rfl) (by simp) ?_
            refine readyCons (o := { dst := some 7, op := Op.assign (Operand.tmp 21), type := 131, pos := "zz_doors.go:65", after := #[{ on := 10, ground := Ground.data }, { on := 4, ground := Ground.chain }, { on := 0, ground := Ground.phase }, { on := 1, ground := Ground.phase }, { on := 2, ground := Ground.phase }, { on := 3, ground := Ground.phase }, { on := 4, ground := Ground.phase }, { on := 5, ground := Ground.phase }, { on := 6, ground := Ground.phase }, { on := 7, ground := Ground.phase }, { on := 8, ground := Ground.phase }, { on := 9, ground := Ground.phase }, { on := 10, ground := Ground.phase }], guard := none }) (by kernel_rfl) (fun K hK => ?_) AllReady.nil
            refine st11 rfl (.tmp 21) rfl (.pointer (some ⟨bt, 0, none⟩)) (by simp [Act.eval]) (hK _ _ ?_)
            refine wpAny_done (by kernel_rfl) ?_ _
            simp only [Act.put, List.setIfInBounds_toArray, List.set_cons_zero, List.set_cons_succ]
            have c5 := step_b c4 b5
            have ZZ : Aside0 (Z1 W S xs bt mr B kb D kd (fun _ => none) w5) := ⟨⟨T (xs.length : Int) B xs.length kb mr D xs.length kd ⟨W.heap.size, 0, none⟩, hTF _ _ _ _ _ _ _ _ _, htb⟩, ((b5.block _ (Nat.lt_of_lt_of_le (Nat.lt_of_lt_of_le (Nat.lt_of_lt_of_le (Nat.lt_of_lt_of_le hlt0 b1.size) b2.size) b3.size) b4.size)).trans ((b4.block _ (Nat.lt_of_lt_of_le (Nat.lt_of_lt_of_le (Nat.lt_of_lt_of_le hlt0 b1.size) b2.size) b3.size)).trans ((b3.block _ (Nat.lt_of_lt_of_le (Nat.lt_of_lt_of_le hlt0 b1.size) b2.size)).trans ((b2.block _ (Nat.lt_of_lt_of_le hlt0 b1.size)).trans ((b1.block _ hlt0).trans HS0))))), (imap_below (imap_below (imap_below (imap_below hmap b2 (imap_lt hmap)) b3 (imap_lt (imap_below hmap b2 (imap_lt hmap)))) b4 (imap_lt (imap_below (imap_below hmap b2 (imap_lt hmap)) b3 (imap_lt (imap_below hmap b2 (imap_lt hmap)))))) b5 (imap_lt (imap_below (imap_below (imap_below hmap b2 (imap_lt hmap)) b3 (imap_lt (imap_below hmap b2 (imap_lt hmap)))) b4 (imap_lt (imap_below (imap_below hmap b2 (imap_lt hmap)) b3 (imap_lt (imap_below hmap b2 (imap_lt hmap)))))))), (pw_own_below (pw_own_below hrow b4) b5), ⟨_, (pw_own_below hbools b5)⟩, Nat.le_trans c4.size hbt, hmr, c5⟩
            go_wp2_with fail
            go_meet
            exact ⟨bt, mr, B, kb, D, kd, rfl, ZZ.out⟩
          exact AllReady.nil
        refine readyCons (o := { dst := some 19, op := Op.makeSlice 44 (Operand.tmp 18) (Operand.tmp 18), type := 44, pos := "zz_doors.go:65", after := #[{ on := 7, ground := Ground.data }, { on := 7, ground := Ground.data }], guard := none }) (by kernel_rfl) (fun K hK => ?_) ?_
        · refine st8 rfl (.tmp 18) rfl xs.length (by omega) (by simp [Act.eval]) (fun D kd w3 hbl b3 => hK _ _ ?_)
          obtain ⟨bcs, hbl2⟩ := hbl
          have hbools := own_weaken hbl2 c2.size
          have c3 := step_b c2 b3
          clear hK K
          simp only [Act.put, List.setIfInBounds_toArray, List.set_cons_zero, List.set_cons_succ]
          refine wpAny_ready (rs := [4]) (by kernel_rfl) (by simp) ?_
          refine readyCons (o := { dst := some 15, op := Op.call { callee := Callee.builtin Builtin.append, args := #[Operand.tmp 13, Operand.tmp 14], argTypes := #[29, 29] }, type := 29, pos := "zz_doors.go:65", after := #[{ on := 2, ground := Ground.data }, { on := 3, ground := Ground.data }], guard := none }) (by kernel_rfl) (fun K hK => ?_) ?_
          · refine st4 rfl (.tmp 13) (.tmp 14) rfl W.heap.size g xs A cw (by simp [Act.eval]) (by simp [Act.eval]) (pw_own_below h13w b3) (HQ _ c3) c3.size (by omega) (fun B kb w4 hrow b4 => hK _ _ ?_)
            have c4 := step_b c3 b4
            clear hK K
            simp only [Act.put, List.setIfInBounds_toArray, List.set_cons_zero, List.set_cons_succ]
            refine wpAny_ready (rs := [9]) (by kernel_rfl) (by simp) ?_
            refine readyCons (o := { dst := some 20, op := Op.build 153 #[(14, Operand.tmp 12), (11, Operand.tmp 15), (6, Operand.tmp 16), (4, Operand.tmp 19), (37, Operand.tmp 5)], type := 153, pos := "zz_doors.go:65", after := #[{ on := 1, ground := Ground.data }, { on := 4, ground := Ground.data }, { on := 5, ground := Ground.data }, { on := 8, ground := Ground.data }], guard := none }) (by kernel_rfl) (fun K hK => ?_) AllReady.nil
            refine st9 rfl (T (xs.length : Int) B xs.length kb mr D xs.length kd ⟨W.heap.size, 0, none⟩) _ rfl (by simp [Act.eval, hT]) (hK _ _ ?_)
            simp only [Act.put, List.setIfInBounds_toArray, List.set_cons_zero, List.set_cons_succ]
            refine wpAny_ready (rs := [10]) (by kernel_rfl) (by simp) ?_
            refine readyCons (o := { dst := some 21, op := Op.box 153 (Operand.tmp 20), type := 131, pos := "zz_doors.go:65", after := #[{ on := 9, ground := Ground.data }], guard := none }) (by kernel_rfl) (fun K hK => ?_) AllReady.nil
            refine st10 rfl (.tmp 20) rfl (T (xs.length : Int) B xs.length kb mr D xs.length kd ⟨W.heap.size, 0, none⟩) (by simp [Act.eval]) (fun bt w5 htb hbt b5 => hK _ _ ?_)
            simp only [Act.put, List.setIfInBounds_toArray, List.set_cons_zero, List.set_cons_succ]
            refine wpAny_ready (rs := [11]) (by kernel_rfl) (by simp) ?_
            refine readyCons (o := { dst := some 7, op := Op.assign (Operand.tmp 21), type := 131, pos := "zz_doors.go:65", after := #[{ on := 10, ground := Ground.data }, { on := 4, ground := Ground.chain }, { on := 0, ground := Ground.phase }, { on := 1, ground := Ground.phase }, { on := 2, ground := Ground.phase }, { on := 3, ground := Ground.phase }, { on := 4, ground := Ground.phase }, { on := 5, ground := Ground.phase }, { on := 6, ground := Ground.phase }, { on := 7, ground := Ground.phase }, { on := 8, ground := Ground.phase }, { on := 9, ground := Ground.phase }, { on := 10, ground := Ground.phase }], guard := none }) (by kernel_rfl) (fun K hK => ?_) AllReady.nil
            refine st11 rfl (.tmp 21) rfl (.pointer (some ⟨bt, 0, none⟩)) (by simp [Act.eval]) (hK _ _ ?_)
            refine wpAny_done (by kernel_rfl) ?_ _
            simp only [Act.put, List.setIfInBounds_toArray, List.set_cons_zero, List.set_cons_succ]
            have c5 := step_b c4 b5
            have ZZ : Aside0 (Z1 W S xs bt mr B kb D kd (fun _ => none) w5) := ⟨⟨T (xs.length : Int) B xs.length kb mr D xs.length kd ⟨W.heap.size, 0, none⟩, hTF _ _ _ _ _ _ _ _ _, htb⟩, ((b5.block _ (Nat.lt_of_lt_of_le (Nat.lt_of_lt_of_le (Nat.lt_of_lt_of_le (Nat.lt_of_lt_of_le hlt0 b1.size) b2.size) b3.size) b4.size)).trans ((b4.block _ (Nat.lt_of_lt_of_le (Nat.lt_of_lt_of_le (Nat.lt_of_lt_of_le hlt0 b1.size) b2.size) b3.size)).trans ((b3.block _ (Nat.lt_of_lt_of_le (Nat.lt_of_lt_of_le hlt0 b1.size) b2.size)).trans ((b2.block _ (Nat.lt_of_lt_of_le hlt0 b1.size)).trans ((b1.block _ hlt0).trans HS0))))), (imap_below (imap_below (imap_below (imap_below hmap b2 (imap_lt hmap)) b3 (imap_lt (imap_below hmap b2 (imap_lt hmap)))) b4 (imap_lt (imap_below (imap_below hmap b2 (imap_lt hmap)) b3 (imap_lt (imap_below hmap b2 (imap_lt hmap)))))) b5 (imap_lt (imap_below (imap_below (imap_below hmap b2 (imap_lt hmap)) b3 (imap_lt (imap_below hmap b2 (imap_lt hmap)))) b4 (imap_lt (imap_below (imap_below hmap b2 (imap_lt hmap)) b3 (imap_lt (imap_below hmap b2 (imap_lt hmap)))))))), (pw_own_below hrow b5), ⟨_, (pw_own_below (pw_own_below hbools b4) b5)⟩, Nat.le_trans c4.size hbt, hmr, c5⟩
            go_wp2_with fail
            go_meet
            exact ⟨bt, mr, B, kb, D, kd, rfl, ZZ.out⟩
          exact AllReady.nil
        exact AllReady.nil
      refine readyCons (o := { dst := some 19, op := Op.makeSlice 44 (Operand.tmp 18) (Operand.tmp 18), type := 44, pos := "zz_doors.go:65", after := #[{ on := 7, ground := Ground.data }, { on := 7, ground := Ground.data }], guard := none }) (by kernel_rfl) (fun K hK => ?_) ?_
      · refine st8 rfl (.tmp 18) rfl xs.length (by omega) (by simp [Act.eval]) (fun D kd w2 hbl b2 => hK _ _ ?_)
        obtain ⟨bcs, hbl2⟩ := hbl
        have hbools := own_weaken hbl2 c1.size
        have c2 := step_b c1 b2
        clear hK K
        simp only [Act.put, List.setIfInBounds_toArray, List.set_cons_zero, List.set_cons_succ]
        refine wpAny_ready (rs := [2]) (by kernel_rfl) (by simp) ?_
        refine readyCons (o := { dst := some 13, op := Op.buildSlice 29 0 #[], type := 29, pos := "zz_doors.go:65", after := #[], guard := none }) (by kernel_rfl) (fun K hK => ?_) ?_
        · refine st2 rfl rfl (fun g w3 h13 b3 => hK _ _ ?_)
          have h13w := own_weaken h13 c2.size
          have c3 := step_b c2 b3
          clear hK K
          simp only [Act.put, List.setIfInBounds_toArray, List.set_cons_zero, List.set_cons_succ]
          refine wpAny_ready (rs := [4]) (by kernel_rfl) (by simp) ?_
          refine readyCons (o := { dst := some 15, op := Op.call { callee := Callee.builtin Builtin.append, args := #[Operand.tmp 13, Operand.tmp 14], argTypes := #[29, 29] }, type := 29, pos := "zz_doors.go:65", after := #[{ on := 2, ground := Ground.data }, { on := 3, ground := Ground.data }], guard := none }) (by kernel_rfl) (fun K hK => ?_) ?_
          · refine st4 rfl (.tmp 13) (.tmp 14) rfl W.heap.size g xs A cw (by simp [Act.eval]) (by simp [Act.eval]) h13w (HQ _ c3) c3.size (by omega) (fun B kb w4 hrow b4 => hK _ _ ?_)
            have c4 := step_b c3 b4
            clear hK K
            simp only [Act.put, List.setIfInBounds_toArray, List.set_cons_zero, List.set_cons_succ]
            refine wpAny_ready (rs := [9]) (by kernel_rfl) (by simp) ?_
            refine readyCons (o := { dst := some 20, op := Op.build 153 #[(14, Operand.tmp 12), (11, Operand.tmp 15), (6, Operand.tmp 16), (4, Operand.tmp 19), (37, Operand.tmp 5)], type := 153, pos := "zz_doors.go:65", after := #[{ on := 1, ground := Ground.data }, { on := 4, ground := Ground.data }, { on := 5, ground := Ground.data }, { on := 8, ground := Ground.data }], guard := none }) (by kernel_rfl) (fun K hK => ?_) AllReady.nil
            refine st9 rfl (T (xs.length : Int) B xs.length kb mr D xs.length kd ⟨W.heap.size, 0, none⟩) _ rfl (by simp [Act.eval, hT]) (hK _ _ ?_)
            simp only [Act.put, List.setIfInBounds_toArray, List.set_cons_zero, List.set_cons_succ]
            refine wpAny_ready (rs := [10]) (by kernel_rfl) (by simp) ?_
            refine readyCons (o := { dst := some 21, op := Op.box 153 (Operand.tmp 20), type := 131, pos := "zz_doors.go:65", after := #[{ on := 9, ground := Ground.data }], guard := none }) (by kernel_rfl) (fun K hK => ?_) AllReady.nil
            refine st10 rfl (.tmp 20) rfl (T (xs.length : Int) B xs.length kb mr D xs.length kd ⟨W.heap.size, 0, none⟩) (by simp [Act.eval]) (fun bt w5 htb hbt b5 => hK _ _ ?_)
            simp only [Act.put, List.setIfInBounds_toArray, List.set_cons_zero, List.set_cons_succ]
            refine wpAny_ready (rs := [11]) (by kernel_rfl) (by simp) ?_
            refine readyCons (o := { dst := some 7, op := Op.assign (Operand.tmp 21), type := 131, pos := "zz_doors.go:65", after := #[{ on := 10, ground := Ground.data }, { on := 4, ground := Ground.chain }, { on := 0, ground := Ground.phase }, { on := 1, ground := Ground.phase }, { on := 2, ground := Ground.phase }, { on := 3, ground := Ground.phase }, { on := 4, ground := Ground.phase }, { on := 5, ground := Ground.phase }, { on := 6, ground := Ground.phase }, { on := 7, ground := Ground.phase }, { on := 8, ground := Ground.phase }, { on := 9, ground := Ground.phase }, { on := 10, ground := Ground.phase }], guard := none }) (by kernel_rfl) (fun K hK => ?_) AllReady.nil
            refine st11 rfl (.tmp 21) rfl (.pointer (some ⟨bt, 0, none⟩)) (by simp [Act.eval]) (hK _ _ ?_)
            refine wpAny_done (by kernel_rfl) ?_ _
            simp only [Act.put, List.setIfInBounds_toArray, List.set_cons_zero, List.set_cons_succ]
            have c5 := step_b c4 b5
            have ZZ : Aside0 (Z1 W S xs bt mr B kb D kd (fun _ => none) w5) := ⟨⟨T (xs.length : Int) B xs.length kb mr D xs.length kd ⟨W.heap.size, 0, none⟩, hTF _ _ _ _ _ _ _ _ _, htb⟩, ((b5.block _ (Nat.lt_of_lt_of_le (Nat.lt_of_lt_of_le (Nat.lt_of_lt_of_le (Nat.lt_of_lt_of_le hlt0 b1.size) b2.size) b3.size) b4.size)).trans ((b4.block _ (Nat.lt_of_lt_of_le (Nat.lt_of_lt_of_le (Nat.lt_of_lt_of_le hlt0 b1.size) b2.size) b3.size)).trans ((b3.block _ (Nat.lt_of_lt_of_le (Nat.lt_of_lt_of_le hlt0 b1.size) b2.size)).trans ((b2.block _ (Nat.lt_of_lt_of_le hlt0 b1.size)).trans ((b1.block _ hlt0).trans HS0))))), (imap_below (imap_below (imap_below (imap_below hmap b2 (imap_lt hmap)) b3 (imap_lt (imap_below hmap b2 (imap_lt hmap)))) b4 (imap_lt (imap_below (imap_below hmap b2 (imap_lt hmap)) b3 (imap_lt (imap_below hmap b2 (imap_lt hmap)))))) b5 (imap_lt (imap_below (imap_below (imap_below hmap b2 (imap_lt hmap)) b3 (imap_lt (imap_below hmap b2 (imap_lt hmap)))) b4 (imap_lt (imap_below (imap_below hmap b2 (imap_lt hmap)) b3 (imap_lt (imap_below hmap b2 (imap_lt hmap)))))))), (pw_own_below hrow b5), ⟨_, (pw_own_below (pw_own_below (pw_own_below hbools b3) b4) b5)⟩, Nat.le_trans c4.size hbt, hmr, c5⟩
            go_wp2_with fail
            go_meet
            exact ⟨bt, mr, B, kb, D, kd, rfl, ZZ.out⟩
          exact AllReady.nil
        exact AllReady.nil
      exact AllReady.nil
    refine readyCons (o := { dst := some 19, op := Op.makeSlice 44 (Operand.tmp 18) (Operand.tmp 18), type := 44, pos := "zz_doors.go:65", after := #[{ on := 7, ground := Ground.data }, { on := 7, ground := Ground.data }], guard := none }) (by kernel_rfl) (fun K hK => ?_) ?_
    · refine st8 rfl (.tmp 18) rfl xs.length (by omega) (by simp [Act.eval]) (fun D kd w1 hbl b1 => hK _ _ ?_)
      obtain ⟨bcs, hbl2⟩ := hbl
      have hbools := own_weaken hbl2 c0.size
      have c1 := step_b c0 b1
      clear hK K
      simp only [Act.put, List.setIfInBounds_toArray, List.set_cons_zero, List.set_cons_succ]
      refine wpAny_ready (rs := [2, 5]) (by kernel_rfl) (by simp) ?_
      refine readyCons (o := { dst := some 13, op := Op.buildSlice 29 0 #[], type := 29, pos := "zz_doors.go:65", after := #[], guard := none }) (by kernel_rfl) (fun K hK => ?_) ?_
      · refine st2 rfl rfl (fun g w2 h13 b2 => hK _ _ ?_)
        have h13w := own_weaken h13 c1.size
        have c2 := step_b c1 b2
        clear hK K
        simp only [Act.put, List.setIfInBounds_toArray, List.set_cons_zero, List.set_cons_succ]
        refine wpAny_ready (rs := [4, 5]) (by kernel_rfl) (by simp) ?_
        refine readyCons (o := { dst := some 15, op := Op.call { callee := Callee.builtin Builtin.append, args := #[Operand.tmp 13, Operand.tmp 14], argTypes := #[29, 29] }, type := 29, pos := "zz_doors.go:65", after := #[{ on := 2, ground := Ground.data }, { on := 3, ground := Ground.data }], guard := none }) (by kernel_rfl) (fun K hK => ?_) ?_
        · refine st4 rfl (.tmp 13) (.tmp 14) rfl W.heap.size g xs A cw (by simp [Act.eval]) (by simp [Act.eval]) h13w (HQ _ c2) c2.size (by omega) (fun B kb w3 hrow b3 => hK _ _ ?_)
          have c3 := step_b c2 b3
          clear hK K
          simp only [Act.put, List.setIfInBounds_toArray, List.set_cons_zero, List.set_cons_succ]
          refine wpAny_ready (rs := [5]) (by kernel_rfl) (by simp) ?_
          refine readyCons (o := { dst := some 16, op := Op.makeMap 133 none, type := 133, pos := "zz_doors.go:65", after := #[], guard := none }) (by kernel_rfl) (fun K hK => ?_) ?_
          · refine st5 rfl rfl (fun mr w4 hmap hmr0 b4 => hK _ _ ?_)
            have hmr := Nat.le_trans c3.size hmr0
            have c4 := step_b c3 b4
            clear hK K
            simp only [Act.put, List.setIfInBounds_toArray, List.set_cons_zero, List.set_cons_succ]
            refine wpAny_ready (rs := [9]) (by kernel_rfl) (by simp) ?_
            refine readyCons (o := { dst := some 20, op := Op.build 153 #[(14, Operand.tmp 12), (11, Operand.tmp 15), (6, Operand.tmp 16), (4, Operand.tmp 19), (37, Operand.tmp 5)], type := 153, pos := "zz_doors.go:65", after := #[{ on := 1, ground := Ground.data }, { on := 4, ground := Ground.data }, { on := 5, ground := Ground.data }, { on := 8, ground := Ground.data }], guard := none }) (by kernel_rfl) (fun K hK => ?_) AllReady.nil
            refine st9 rfl (T (xs.length : Int) B xs.length kb mr D xs.length kd ⟨W.heap.size, 0, none⟩) _ rfl (by simp [Act.eval, hT]) (hK _ _ ?_)
            simp only [Act.put, List.setIfInBounds_toArray, List.set_cons_zero, List.set_cons_succ]
            refine wpAny_ready (rs := [10]) (by kernel_rfl) (by simp) ?_
            refine readyCons (o := { dst := some 21, op := Op.box 153 (Operand.tmp 20), type := 131, pos := "zz_doors.go:65", after := #[{ on := 9, ground := Ground.data }], guard := none }) (by kernel_rfl) (fun K hK => ?_) AllReady.nil
            refine st10 rfl (.tmp 20) rfl (T (xs.length : Int) B xs.length kb mr D xs.length kd ⟨W.heap.size, 0, none⟩) (by simp [Act.eval]) (fun bt w5 htb hbt b5 => hK _ _ ?_)
            simp only [Act.put, List.setIfInBounds_toArray, List.set_cons_zero, List.set_cons_succ]
            refine wpAny_ready (rs := [11]) (by kernel_rfl) (by simp) ?_
            refine readyCons (o := { dst := some 7, op := Op.assign (Operand.tmp 21), type := 131, pos := "zz_doors.go:65", after := #[{ on := 10, ground := Ground.data }, { on := 4, ground := Ground.chain }, { on := 0, ground := Ground.phase }, { on := 1, ground := Ground.phase }, { on := 2, ground := Ground.phase }, { on := 3, ground := Ground.phase }, { on := 4, ground := Ground.phase }, { on := 5, ground := Ground.phase }, { on := 6, ground := Ground.phase }, { on := 7, ground := Ground.phase }, { on := 8, ground := Ground.phase }, { on := 9, ground := Ground.phase }, { on := 10, ground := Ground.phase }], guard := none }) (by kernel_rfl) (fun K hK => ?_) AllReady.nil
            refine st11 rfl (.tmp 21) rfl (.pointer (some ⟨bt, 0, none⟩)) (by simp [Act.eval]) (hK _ _ ?_)
            refine wpAny_done (by kernel_rfl) ?_ _
            simp only [Act.put, List.setIfInBounds_toArray, List.set_cons_zero, List.set_cons_succ]
            have c5 := step_b c4 b5
            have ZZ : Aside0 (Z1 W S xs bt mr B kb D kd (fun _ => none) w5) := ⟨⟨T (xs.length : Int) B xs.length kb mr D xs.length kd ⟨W.heap.size, 0, none⟩, hTF _ _ _ _ _ _ _ _ _, htb⟩, ((b5.block _ (Nat.lt_of_lt_of_le (Nat.lt_of_lt_of_le (Nat.lt_of_lt_of_le (Nat.lt_of_lt_of_le hlt0 b1.size) b2.size) b3.size) b4.size)).trans ((b4.block _ (Nat.lt_of_lt_of_le (Nat.lt_of_lt_of_le (Nat.lt_of_lt_of_le hlt0 b1.size) b2.size) b3.size)).trans ((b3.block _ (Nat.lt_of_lt_of_le (Nat.lt_of_lt_of_le hlt0 b1.size) b2.size)).trans ((b2.block _ (Nat.lt_of_lt_of_le hlt0 b1.size)).trans ((b1.block _ hlt0).trans HS0))))), (imap_below hmap b5 (imap_lt hmap)), (pw_own_below (pw_own_below hrow b4) b5), ⟨_, (pw_own_below (pw_own_below (pw_own_below (pw_own_below hbools b2) b3) b4) b5)⟩, Nat.le_trans c4.size hbt, hmr, c5⟩
            go_wp2_with fail
            go_meet
            exact ⟨bt, mr, B, kb, D, kd, rfl, ZZ.out⟩
          exact AllReady.nil
        refine readyCons (o := { dst := some 16, op := Op.makeMap 133 none, type := 133, pos := "zz_doors.go:65", after := #[], guard := none }) (by kernel_rfl) (fun K hK => ?_) ?_
        · refine st5 rfl rfl (fun mr w3 hmap hmr0 b3 => hK _ _ ?_)
          have hmr := Nat.le_trans c2.size hmr0
          have c3 := step_b c2 b3
          clear hK K
          simp only [Act.put, List.setIfInBounds_toArray, List.set_cons_zero, List.set_cons_succ]
          refine wpAny_ready (rs := [4]) (by kernel_rfl) (by simp) ?_
          refine readyCons (o := { dst := some 15, op := Op.call { callee := Callee.builtin Builtin.append, args := #[Operand.tmp 13, Operand.tmp 14], argTypes := #[29, 29] }, type := 29, pos := "zz_doors.go:65", after := #[{ on := 2, ground := Ground.data }, { on := 3, ground := Ground.data }], guard := none }) (by kernel_rfl) (fun K hK => ?_) ?_
          · refine st4 rfl (.tmp 13) (.tmp 14) rfl W.heap.size g xs A cw (by simp [Act.eval]) (by simp [Act.eval]) (pw_own_below h13w b3) (HQ _ c3) c3.size (by omega) (fun B kb w4 hrow b4 => hK _ _ ?_)
            have c4 := step_b c3 b4
            clear hK K
            simp only [Act.put, List.setIfInBounds_toArray, List.set_cons_zero, List.set_cons_succ]
            refine wpAny_ready (rs := [9]) (by kernel_rfl) (by simp) ?_
            refine readyCons (o := { dst := some 20, op := Op.build 153 #[(14, Operand.tmp 12), (11, Operand.tmp 15), (6, Operand.tmp 16), (4, Operand.tmp 19), (37, Operand.tmp 5)], type := 153, pos := "zz_doors.go:65", after := #[{ on := 1, ground := Ground.data }, { on := 4, ground := Ground.data }, { on := 5, ground := Ground.data }, { on := 8, ground := Ground.data }], guard := none }) (by kernel_rfl) (fun K hK => ?_) AllReady.nil
            refine st9 rfl (T (xs.length : Int) B xs.length kb mr D xs.length kd ⟨W.heap.size, 0, none⟩) _ rfl (by simp [Act.eval, hT]) (hK _ _ ?_)
            simp only [Act.put, List.setIfInBounds_toArray, List.set_cons_zero, List.set_cons_succ]
            refine wpAny_ready (rs := [10]) (by kernel_rfl) (by simp) ?_
            refine readyCons (o := { dst := some 21, op := Op.box 153 (Operand.tmp 20), type := 131, pos := "zz_doors.go:65", after := #[{ on := 9, ground := Ground.data }], guard := none }) (by kernel_rfl) (fun K hK => ?_) AllReady.nil
            refine st10 rfl (.tmp 20) rfl (T (xs.length : Int) B xs.length kb mr D xs.length kd ⟨W.heap.size, 0, none⟩) (by simp [Act.eval]) (fun bt w5 htb hbt b5 => hK _ _ ?_)
            simp only [Act.put, List.setIfInBounds_toArray, List.set_cons_zero, List.set_cons_succ]
            refine wpAny_ready (rs := [11]) (by kernel_rfl) (by simp) ?_
            refine readyCons (o := { dst := some 7, op := Op.assign (Operand.tmp 21), type := 131, pos := "zz_doors.go:65", after := #[{ on := 10, ground := Ground.data }, { on := 4, ground := Ground.chain }, { on := 0, ground := Ground.phase }, { on := 1, ground := Ground.phase }, { on := 2, ground := Ground.phase }, { on := 3, ground := Ground.phase }, { on := 4, ground := Ground.phase }, { on := 5, ground := Ground.phase }, { on := 6, ground := Ground.phase }, { on := 7, ground := Ground.phase }, { on := 8, ground := Ground.phase }, { on := 9, ground := Ground.phase }, { on := 10, ground := Ground.phase }], guard := none }) (by kernel_rfl) (fun K hK => ?_) AllReady.nil
            refine st11 rfl (.tmp 21) rfl (.pointer (some ⟨bt, 0, none⟩)) (by simp [Act.eval]) (hK _ _ ?_)
            refine wpAny_done (by kernel_rfl) ?_ _
            simp only [Act.put, List.setIfInBounds_toArray, List.set_cons_zero, List.set_cons_succ]
            have c5 := step_b c4 b5
            have ZZ : Aside0 (Z1 W S xs bt mr B kb D kd (fun _ => none) w5) := ⟨⟨T (xs.length : Int) B xs.length kb mr D xs.length kd ⟨W.heap.size, 0, none⟩, hTF _ _ _ _ _ _ _ _ _, htb⟩, ((b5.block _ (Nat.lt_of_lt_of_le (Nat.lt_of_lt_of_le (Nat.lt_of_lt_of_le (Nat.lt_of_lt_of_le hlt0 b1.size) b2.size) b3.size) b4.size)).trans ((b4.block _ (Nat.lt_of_lt_of_le (Nat.lt_of_lt_of_le (Nat.lt_of_lt_of_le hlt0 b1.size) b2.size) b3.size)).trans ((b3.block _ (Nat.lt_of_lt_of_le (Nat.lt_of_lt_of_le hlt0 b1.size) b2.size)).trans ((b2.block _ (Nat.lt_of_lt_of_le hlt0 b1.size)).trans ((b1.block _ hlt0).trans HS0))))), (imap_below (imap_below hmap b4 (imap_lt hmap)) b5 (imap_lt (imap_below hmap b4 (imap_lt hmap)))), (pw_own_below hrow b5), ⟨_, (pw_own_below (pw_own_below (pw_own_below (pw_own_below hbools b2) b3) b4) b5)⟩, Nat.le_trans c4.size hbt, hmr, c5⟩
            go_wp2_with fail
            go_meet
            exact ⟨bt, mr, B, kb, D, kd, rfl, ZZ.out⟩
          exact AllReady.nil
        exact AllReady.nil
      refine readyCons (o := { dst := some 16, op := Op.makeMap 133 none, type := 133, pos := "zz_doors.go:65", after := #[], guard := none }) (by kernel_rfl) (fun K hK => ?_) ?_
      · refine st5 rfl rfl (fun mr w2 hmap hmr0 b2 => hK _ _ ?_)
        have hmr := Nat.le_trans c1.size hmr0
        have c2 := step_b c1 b2
        clear hK K
        simp only [Act.put, List.setIfInBounds_toArray, List.set_cons_zero, List.set_cons_succ]
        refine wpAny_ready (rs := [2]) (by kernel_rfl) (by simp) ?_
        refine readyCons (o := { dst := some 13, op := Op.buildSlice 29 0 #[], type := 29, pos := "zz_doors.go:65", after := #[], guard := none }) (by kernel_rfl) (fun K hK => ?_) ?_
        · refine st2 rfl rfl (fun g w3 h13 b3 => hK _ _ ?_)
          have h13w := own_weaken h13 c2.size
          have c3 := step_b c2 b3
          clear hK K
          simp only [Act.put, List.setIfInBounds_toArray, List.set_cons_zero, List.set_cons_succ]
          refine wpAny_ready (rs := [4]) (by kernel_rfl) (by simp) ?_
          refine readyCons (o := { dst := some 15, op := Op.call { callee := Callee.builtin Builtin.append, args := #[Operand.tmp 13, Operand.tmp 14], argTypes := #[29, 29] }, type := 29, pos := "zz_doors.go:65", after := #[{ on := 2, ground := Ground.data }, { on := 3, ground := Ground.data }], guard := none }) (by kernel_rfl) (fun K hK => ?_) ?_
          · refine st4 rfl (.tmp 13) (.tmp 14) rfl W.heap.size g xs A cw (by simp [Act.eval]) (by simp [Act.eval]) h13w (HQ _ c3) c3.size (by omega) (fun B kb w4 hrow b4 => hK _ _ ?_)
            have c4 := step_b c3 b4
            clear hK K
            simp only [Act.put, List.setIfInBounds_toArray, List.set_cons_zero, List.set_cons_succ]
            refine wpAny_ready (rs := [9]) (by kernel_rfl) (by simp) ?_
            refine readyCons (o := { dst := some 20, op := Op.build 153 #[(14, Operand.tmp 12), (11, Operand.tmp 15), (6, Operand.tmp 16), (4, Operand.tmp 19), (37, Operand.tmp 5)], type := 153, pos := "zz_doors.go:65", after := #[{ on := 1, ground := Ground.data }, { on := 4, ground := Ground.data }, { on := 5, ground := Ground.data }, { on := 8, ground := Ground.data }], guard := none }) (by kernel_rfl) (fun K hK => ?_) AllReady.nil
            refine st9 rfl (T (xs.length : Int) B xs.length kb mr D xs.length kd ⟨W.heap.size, 0, none⟩) _ rfl (by simp [Act.eval, hT]) (hK _ _ ?_)
            simp only [Act.put, List.setIfInBounds_toArray, List.set_cons_zero, List.set_cons_succ]
            refine wpAny_ready (rs := [10]) (by kernel_rfl) (by simp) ?_
            refine readyCons (o := { dst := some 21, op := Op.box 153 (Operand.tmp 20), type := 131, pos := "zz_doors.go:65", after := #[{ on := 9, ground := Ground.data }], guard := none }) (by kernel_rfl) (fun K hK => ?_) AllReady.nil
            refine st10 rfl (.tmp 20) rfl (T (xs.length : Int) B xs.length kb mr D xs.length kd ⟨W.heap.size, 0, none⟩) (by simp [Act.eval]) (fun bt w5 htb hbt b5 => hK _ _ ?_)
            simp only [Act.put, List.setIfInBounds_toArray, List.set_cons_zero, List.set_cons_succ]
            refine wpAny_ready (rs := [11]) (by kernel_rfl) (by simp) ?_
            refine readyCons (o := { dst := some 7, op := Op.assign (Operand.tmp 21), type := 131, pos := "zz_doors.go:65", after := #[{ on := 10, ground := Ground.data }, { on := 4, ground := Ground.chain }, { on := 0, ground := Ground.phase }, { on := 1, ground := Ground.phase }, { on := 2, ground := Ground.phase }, { on := 3, ground := Ground.phase }, { on := 4, ground := Ground.phase }, { on := 5, ground := Ground.phase }, { on := 6, ground := Ground.phase }, { on := 7, ground := Ground.phase }, { on := 8, ground := Ground.phase }, { on := 9, ground := Ground.phase }, { on := 10, ground := Ground.phase }], guard := none }) (by kernel_rfl) (fun K hK => ?_) AllReady.nil
            refine st11 rfl (.tmp 21) rfl (.pointer (some ⟨bt, 0, none⟩)) (by simp [Act.eval]) (hK _ _ ?_)
            refine wpAny_done (by kernel_rfl) ?_ _
            simp only [Act.put, List.setIfInBounds_toArray, List.set_cons_zero, List.set_cons_succ]
            have c5 := step_b c4 b5
            have ZZ : Aside0 (Z1 W S xs bt mr B kb D kd (fun _ => none) w5) := ⟨⟨T (xs.length : Int) B xs.length kb mr D xs.length kd ⟨W.heap.size, 0, none⟩, hTF _ _ _ _ _ _ _ _ _, htb⟩, ((b5.block _ (Nat.lt_of_lt_of_le (Nat.lt_of_lt_of_le (Nat.lt_of_lt_of_le (Nat.lt_of_lt_of_le hlt0 b1.size) b2.size) b3.size) b4.size)).trans ((b4.block _ (Nat.lt_of_lt_of_le (Nat.lt_of_lt_of_le (Nat.lt_of_lt_of_le hlt0 b1.size) b2.size) b3.size)).trans ((b3.block _ (Nat.lt_of_lt_of_le (Nat.lt_of_lt_of_le hlt0 b1.size) b2.size)).trans ((b2.block _ (Nat.lt_of_lt_of_le hlt0 b1.size)).trans ((b1.block _ hlt0).trans HS0))))), (imap_below (imap_below (imap_below hmap b3 (imap_lt hmap)) b4 (imap_lt (imap_below hmap b3 (imap_lt hmap)))) b5 (imap_lt (imap_below (imap_below hmap b3 (imap_lt hmap)) b4 (imap_lt (imap_below hmap b3 (imap_lt hmap)))))), (pw_own_below hrow b5), ⟨_, (pw_own_below (pw_own_below (pw_own_below (pw_own_below hbools b2) b3) b4) b5)⟩, Nat.le_trans c4.size hbt, hmr, c5⟩
            go_wp2_with fail
            go_meet
            exact ⟨bt, mr, B, kb, D, kd, rfl, ZZ.out⟩
          exact AllReady.nil
        exact AllReady.nil
      exact AllReady.nil
    exact AllReady.nil
  case rest =>
    obtain ⟨bt, mr, B, kb, D, kd, rfl, hZ⟩ := hcut
    have HZ := Aside0.mk hZ
    have c4 := hZ.cell.2.2.2
    clear hZ HQ hT hTF
    go_wp2
    go_loopw [27] (fun i wr => ∃ q : Nat, Value.int .i64 (q : Int) = i ∧ q ≤ xs.length ∧ Aside0 (Z1 W S xs bt mr B kb D kd (fun _ => none) wr)) (fun i _ => xs.length - (intOf i).toNat)
    case atStart => exact ⟨0, rfl, by omega, HZ⟩
    case round =>
      obtain ⟨q, rfl, hq, HR⟩ := hrel
      clear c4 HZ
      have c4 := HR.out.cell.2.2.2
      by_cases hlt : q < xs.length
      · obtain ⟨g0, u, rfl, hcell, hfr, hz⟩ := HR.out.setBool q hlt
        have HS := Aside0.mk hz
        clear hz HR
        go_wp2
        go_roundw
        case rel => exact ⟨q + 1, by go_num, by omega, HS⟩
        case measure => simp [intOf]; omega
      · clear c4
        have HZ2 : Aside0 (Z1 W S xs bt mr B kb D kd (mapF hs 0) wr) := ⟨by
          have : mapF hs 0 = fun _ => none := by funext i; unfold mapF; rw [if_neg (by omega)]
          rw [this]; exact HR.out⟩
        clear HR
        have HM := Aside0.mk HAC.out
        go_wp2
        go_loopw [39] (fun i wr => ∃ q : Nat, Value.int .i64 (q : Int) = i ∧ q ≤ m ∧ Aside0 (Z1 W S xs bt mr B kb D kd (mapF hs q) wr)) (fun i _ => m - (intOf i).toNat)
        case atStart => exact ⟨0, rfl, by omega, HZ2⟩
        case round =>
          obtain ⟨q, rfl, hq2, HR⟩ := hrel
          clear HZ2
          by_cases hlt2 : q < m
          · obtain rfl := HM.out (by omega)
            have kc := fun t u h => pw_cell_below HR.out.below (HCF.out q t u hlt2 h)
            obtain ⟨b, hb⟩ : ∃ b, b = hs q := ⟨_, rfl⟩
            rw [← hb] at kc
            have k0 : wr.cell? ⟨g, q * 16, none⟩ = some (.string ⟨#[]⟩) := kc 0 _ rfl
            have k1 : wr.cell? ⟨g, q * 16 + 1, none⟩ = some (.int .i64 0) := kc 1 _ rfl
            have k2 : wr.cell? ⟨g, q * 16 + 2, none⟩ = some (.int .i64 0) := kc 2 _ rfl
            have k3 : wr.cell? ⟨g, q * 16 + 3, none⟩ = some (.int .i64 0) := kc 3 _ rfl
            have k4 : wr.cell? ⟨g, q * 16 + 4, none⟩ = some (.int .i64 0) := kc 4 _ rfl
            have k5 : wr.cell? ⟨g, q * 16 + 5, none⟩ = some (.bool false) := kc 5 _ rfl
            have k6 : wr.cell? ⟨g, q * 16 + 6, none⟩ = some (.slice none 0 0) := kc 6 _ rfl
            have k7 : wr.cell? ⟨g, q * 16 + 7, none⟩ = some (.slice none 0 0) := kc 7 _ rfl
            have k8 : wr.cell? ⟨g, q * 16 + 8, none⟩ = some (.slice none 0 0) := kc 8 _ rfl
            have k9 : wr.cell? ⟨g, q * 16 + 9, none⟩ = some (.bool b) := kc 9 _ rfl
            have k10 : wr.cell? ⟨g, q * 16 + 10, none⟩ = some (.int .i64 0) := kc 10 _ rfl
            have k11 : wr.cell? ⟨g, q * 16 + 11, none⟩ = some (.int .i64 0) := kc 11 _ rfl
            have k12 : wr.cell? ⟨g, q * 16 + 12, none⟩ = some (.int .i64 0) := kc 12 _ rfl
            have k13 : wr.cell? ⟨g, q * 16 + 13, none⟩ = some (.int .i64 0) := kc 13 _ rfl
            have k14 : wr.cell? ⟨g, q * 16 + 14, none⟩ = some (.nilFunc) := kc 14 _ rfl
            have k15 : wr.cell? ⟨g, q * 16 + 15, none⟩ = some (.int .i64 0) := kc 15 _ rfl
            have c6 : ∀ X, (wr.alloc X).cell? ⟨bt, 6, none⟩ = some (.map (some mr)) := fun X => pw_cell_below (below_alloc (Below.refl _ _) X) HR.out.cell.2.2.1
            obtain ⟨w9, hmu, him, hg9⟩ := imap_store (P := Try.prog) (imap_drew (imap_alloc HR.out.map (Obj.cells #[.string ⟨#[]⟩, .int .i64 0, .int .i64 0, .int .i64 0, .int .i64 0, .bool false, .slice none 0 0, .slice none 0 0, .slice none 0 0, .bool b, .int .i64 0, .int .i64 0, .int .i64 0, .int .i64 0, .nilFunc, .int .i64 0] 84))) Try.underlying133 Try.underlying3 (q : Int) (WalkArith.wf_i64 (by omega)) (.agg #[.string ⟨#[]⟩, .int .i64 0, .int .i64 0, .int .i64 0, .int .i64 0, .bool false, .slice none 0 0, .slice none 0 0, .slice none 0 0, .bool b, .int .i64 0, .int .i64 0, .int .i64 0, .int .i64 0, .nilFunc, .int .i64 0])
            have HS : Aside0 (Z1 W S xs bt mr B kb D kd (mapF hs (q + 1)) w9) := ⟨by
              rw [← mapF_step, ← hb]
              exact HR.out.putMap (below_drew1 (below_alloc (Below.refl _ _) _)) him hg9⟩
            have hst : (store ⟨wr.heap.size, 14, none⟩ Value.nilFunc).run Try.prog (wr.alloc (Obj.cells #[.string ⟨#[]⟩, .int .i64 0, .int .i64 0, .int .i64 0, .int .i64 0, .bool false, .slice none 0 0, .slice none 0 0, .slice none 0 0, .bool b, .int .i64 0, .int .i64 0, .int .i64 0, .int .i64 0, .nilFunc, .int .i64 0] 84)) = .ok () (wr.alloc (Obj.cells #[.string ⟨#[]⟩, .int .i64 0, .int .i64 0, .int .i64 0, .int .i64 0, .bool false, .slice none 0 0, .slice none 0 0, .slice none 0 0, .bool b, .int .i64 0, .int .i64 0, .int .i64 0, .int .i64 0, .nilFunc, .int .i64 0] 84)) := by
              rw [run_store _ _ _ _ _ (by rfl)]
              simp [World.cell?_alloc_at, World.frozen?_alloc_at, World.setCell_alloc_at]
            clear kc him hg9 hb HR
            go_wp2
            go_region
            all_goals go_wp2
            all_goals go_roundw
            case rel => exact ⟨q + 1, by go_num, by omega, HS⟩
            case measure => simp [intOf]; omega
          · obtain rfl : q = m := by omega
            go_wp2
            go_ret
            exact ⟨bt, mr, B, kb, D, kd, rfl, HR.out⟩
end Go.Proofs.Ytapbnbinoakbhaa.ZReg
