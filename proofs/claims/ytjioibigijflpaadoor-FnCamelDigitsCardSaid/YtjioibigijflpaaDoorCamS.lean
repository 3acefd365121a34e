/-
  Proved: steps of tw.SplitCamelCase's memory: a rune appended to the last group, a group appended. Conditions: each theorem's own.
-/
import Derived.Test.YtjioibigijflpaaDoorCamP
import Derived.Test.YtjioibigijflpaaDoorShelfC
import Derived.Test.YtjioibigijflpaaDoorWMore
import Derived.Test.YtjioibigijflpaaDoorGECx0
import Derived.Lib.AppendIntMem
import Derived.Lib.AtoiErrMem
import Derived.WalkKit
import Derived.Laws.RangeString
import Derived.Lib.OthersKept
import Derived.Lib.MapLaws
import Derived.BigCall
import Derived.Laws.IdiomStrings
import Derived.Laws.Cover4
namespace Go.Proofs.YtjioibigijflpaaDoor.CamS
open Go.RowKit Go.Lib Go.Proofs.YtjioibigijflpaaDoorW.PrintWords Go.Proofs.YtjioibigijflpaaDoor.Common Go.Proofs.YtjioibigijflpaaDoor.CamP
set_option linter.unusedVariables false
set_option linter.unusedSimpArgs false

abbrev RI : Kd (List Int) := Kd.slice 21 (Kd.int .i32)
def rg (gs : List (List UInt8)) : List (List Int) := gs.map ofBs
theorem rg_len (gs : List (List UInt8)) : (rg gs).length = gs.length := List.length_map _
theorem rg_snoc (gs : List (List UInt8)) (p : List UInt8) : rg (gs ++ [p]) = rg gs ++ [ofBs p] := by simp [rg]
theorem ofBs_len (l : List UInt8) : (ofBs l).length = l.length := by simp [ofBs]
theorem ofBs_snoc (l : List UInt8) (c : UInt8) : ofBs (l ++ [c]) = ofBs l ++ [(c.toNat : Int)] := by simp [ofBs]
theorem rg_last (gs : List (List UInt8)) (h : gs ≠ []) : (rg gs).getD ((gs.length : Int) - 1).toNat [] = ofBs (lastG gs) := by
  have hl : gs.length - 1 < gs.length := by have := List.length_pos_iff.2 h; omega
  rw [show ((gs.length : Int) - 1).toNat = gs.length - 1 by omega]
  simp [rg, lastG, List.getD_eq_getElem?_getD, List.getElem?_eq_getElem hl]
theorem rg_set (gs : List (List UInt8)) (h : gs ≠ []) (c : UInt8) : (rg gs).set ((gs.length : Int) - 1).toNat (ofBs (lastG gs) ++ [(c.toNat : Int)]) = rg (gs.set (gs.length - 1) (lastG gs ++ [c])) := by
  have := List.length_pos_iff.2 h
  rw [show ((gs.length : Int) - 1).toNat = gs.length - 1 by omega, ← ofBs_snoc]
  simp [rg, List.map_set]
theorem info21 : (Tryd.prog.info? 21).map (fun i => (i.zero, i.size, i.bytes)) = some (some (.int .i32 0), 1, 4) := by kernel_rfl
theorem info68 : (Tryd.prog.info? 68).map (fun i => (i.zero, i.size, i.bytes)) = some (some (.slice none 0 0), 1, 24) := by kernel_rfl
theorem setCells1 (w : World) (g o : Nat) (u : Value) : w.setCells g o [u] = w.setCell ⟨g, o, none⟩ u := rfl
/-- the last group, lent and put back -/
theorem last_step {W : World} {base g cap : Nat} {gs : List (List UInt8)} (hS : Kd.S RI 68 W base (fun _ => True) (.slice (some ⟨g, 0, none⟩) gs.length cap) (rg gs)) (h : gs ≠ []) :
    ∃ (okr : Nat → Prop) (A : Option Addr) (ci : Nat), W.cell? ⟨g, gs.length - 1, none⟩ = some (.slice A (lastG gs).length ci) ∧ Kd.R (Kd.int .i32) 21 W base okr (.slice A (lastG gs).length ci) (ofBs (lastG gs)) ∧ (∀ k, W.heap.size ≤ k → okr k) ∧
      ∀ (w1 : World) (v1 : Value) (c : UInt8), Kd.R (Kd.int .i32) 21 w1 base okr v1 (ofBs (lastG gs) ++ [(c.toNat : Int)]) → W.grownBy w1 (Value.slice A (lastG gs).length ci).ownBlock →
        w1.cell? ⟨g, gs.length - 1, none⟩ = some (.slice A (lastG gs).length ci) ∧ w1.frozen? ⟨g, gs.length - 1, none⟩ = false ∧ Kd.S RI 68 (w1.setCell ⟨g, gs.length - 1, none⟩ v1) base (fun _ => True) (.slice (some ⟨g, 0, none⟩) gs.length cap) (rg (gs.set (gs.length - 1) (lastG gs ++ [c]))) ∧ w1.grownBy (w1.setCell ⟨g, gs.length - 1, none⟩ v1) (some g) ∧ w1.heap[g]? = W.heap[g]? := by
  have hpos := List.length_pos_iff.2 h
  obtain ⟨oki, cc, hcl, hM, hcc, hfr, hoki, hH⟩ := Kd.S_elem hS [] ((gs.length : Int) - 1) (by omega) (by omega)
  rw [rg_last gs h] at hM
  obtain ⟨v, rfl, hR⟩ := hM
  obtain ⟨A, ci, rfl⟩ := Kd.R_slice hR
  rw [ofBs_len] at hR hcc hH hcl
  have h0 := hcc 0 _ rfl
  have hf0 := hfr 0
  rw [show ((gs.length : Int) - 1).toNat * RI.sz + 0 = gs.length - 1 by show ((gs.length : Int) - 1).toNat * 1 + 0 = _; omega] at h0 hf0
  have hown : ∀ k, (Value.slice A (lastG gs).length ci).ownBlock = some k → oki k := hR.1
  have hgb : g < W.heap.size := World.block_lt_of_cell? W _ h0
  have hgne : ∀ k, (Value.slice A (lastG gs).length ci).ownBlock = some k → k ≠ g := fun k hk => (hoki k (hown k hk)).2
  have hHw := Kd.H_widen hH
  refine ⟨fun k => oki k ∨ True ∧ W.heap.size ≤ k, A, ci, h0, Kd.R_mono hR (fun k hk => .inl hk), fun k hk => .inr ⟨trivial, hk⟩, fun w1 v1 c hr hg => ?_⟩
  have hblk : w1.heap[g]? = W.heap[g]? := hg.block g hgb (fun e => hgne g e.symm rfl)
  have hH1 := Kd.H_grown hHw hg (fun k hk => .inl (hown k hk))
  have hst := Kd.S_seg0 (x' := ofBs (lastG gs) ++ [(c.toNat : Int)]) hH1 (by omega) (by omega) (seg := [v1]) (j := 0) (Nat.le_refl _) (okp := fun k => oki k ∨ True ∧ W.heap.size ≤ k) (by
    show RI.M w1 base _ _ ([v1] ++ [])
    exact Kd.M_row hr) (fun k hk => hk)
  rw [show ((gs.length : Int) - 1).toNat * RI.sz + 0 = gs.length - 1 by show ((gs.length : Int) - 1).toNat * 1 + 0 = _; omega, setCells1, rg_set gs h c] at hst
  refine ⟨?_, ?_, hst.1, hst.2, hblk⟩
  · rw [← h0]; simp [World.cell?, hblk]
  · rw [← hf0]; simp [World.frozen?, hblk]
/-- what stays aside: the iterator, the entries (none yet), what was there before -/
structure C0 (w : World) (it : Nat) (s : ByteArray) (pos : Nat) (v2 : Value) (wr : World) : Prop where
  iter : wr.heap[it]? = some (.stringIter s pos)
  ent : Kd.R Kd.string 9 wr w.heap.size (fun _ => True) v2 []
  bel : Below w.heap.size w wr
  itb : w.heap.size ≤ it
variable {w wr w1 : World} {it pos : Nat} {s : ByteArray} {v2 v3 : Value} {gs : List (List UInt8)}
theorem C0.on (h : C0 w it s pos v2 wr) (hb : Below wr.heap.size wr w1) : C0 w it s pos v2 w1 :=
  ⟨(hb.block _ (Array.getElem?_eq_some_iff.1 h.iter).1).trans h.iter, Kd.R_below h.ent hb, h.bel.trans (hb.mono h.bel.size), h.itb⟩
theorem C0.grow (h : C0 w it s pos v2 wr) {row : Option Nat} (hg : wr.grownBy w1 row) (hrow : ∀ k, row = some k → w.heap.size ≤ k ∧ ∃ (X : Array Value) (t : Nat), wr.heap[k]? = some (.cells X t (0, 0)) ∧ t ≠ 9) : C0 w it s pos v2 w1 := by
  refine ⟨(hg.block _ (Array.getElem?_eq_some_iff.1 h.iter).1 (fun e => ?_)).trans h.iter, Kd.R_mono (Kd.R_step (Kd.R_bound h.ent) (fun k hk hlt => hg.block k hlt (fun e => ?_))) (fun k hk => hk.1), h.bel.grown hg h.bel.size (fun k hk => (hrow k hk).1), h.itb⟩
  · obtain ⟨_, X, t, hX, _⟩ := hrow it e.symm
    rw [h.iter] at hX
    cases hX
  · obtain ⟨_, X, t, hX, ht⟩ := hrow k e.symm
    obtain ⟨q, hq, cells, hc⟩ := hk.2.2.2
    rw [hX] at hc
    injection hc with hc
    injection hc with _ hc
    subst hc
    have : t = 9 := by simpa [Kd.string, Kd.scalar] using hq
    exact ht this
theorem C0.next (h : C0 w it s pos v2 wr) : C0 w it s (pos + 1) v2 (wr.iterAt it s (pos + 1)) := by
  refine ⟨Lib.iterAt_heap wr it s pos (pos + 1) h.iter, Kd.R_mono (Kd.R_step (Kd.R_bound h.ent) (fun k hk hlt => ?_)) (fun k hk => hk.1), Lib.below_iterAt h.bel h.itb s (pos + 1), h.itb⟩
  obtain ⟨q, hq, cells, hc⟩ := hk.2.2.2
  exact Lib.iterAt_other wr it k s (pos + 1) (fun e => by subst e; rw [h.iter] at hc; cases hc)
theorem rows_next (hi : wr.heap[it]? = some (.stringIter s pos)) {base : Nat} (h : Kd.S RI 68 wr base (fun _ => True) v3 (rg gs)) : Kd.S RI 68 (wr.iterAt it s (pos + 1)) base (fun _ => True) v3 (rg gs) := by
  refine Kd.S_mono (Kd.S_step (Kd.S_bound h) (fun k hk hlt => ?_)) (fun k hk => hk.1)
  obtain ⟨q, hq, cells, hc⟩ := hk.2.2.2
  exact Lib.iterAt_other wr it k s (pos + 1) (fun e => by subst e; rw [hi] at hc; cases hc)
theorem ent0 (W : World) (base : Nat) (hb : base ≤ W.heap.size) : Kd.R Kd.string 9 (W.alloc (.cells #[] 9)) base (fun _ => True) (.slice (some ⟨W.heap.size, 0, none⟩) 0 0) [] :=
  Kd.R_of_own (enc := Value.string) (h1 := fun _ => rfl) (World.ownsRow_lit (base := base) (e := 9) (size := 1) W #[] 0 hb (by unfold maxLen; omega) rfl) (fun _ _ => trivial)
theorem one_rune (W : World) (base : Nat) (hb : base ≤ W.heap.size) (r : Int) : Kd.R (Kd.int .i32) 21 (W.alloc (.cells #[.int .i32 r] 21)) base (fun k => k = W.heap.size) (.slice (some ⟨W.heap.size, 0, none⟩) 1 1) [r] :=
  Kd.R_of_own (enc := Value.int .i32) (h1 := fun _ => rfl) (World.ownsRow_lit (base := base) (e := 21) (size := 1) W #[.int .i32 r] 1 hb (by unfold maxLen; omega) rfl) (fun k hk => by simpa [Value.ownBlock] using hk.symm)
def T (w : World) : Prop := Lib.TabBelow Tryd.prog w.heap.size w "unicode.properties" .u8 Lib.propertiesTab ∧ Lib.TabBelow Tryd.prog w.heap.size w "strings.asciiSpace" .u8 Lib.asciiSpaceTab ∧ Lib.Utf8Tabs 0 1 w
theorem valid_go : ∀ (n : Nat) (l : List UInt8), (∀ c ∈ l, okd c) → Lib.validGoD n l = true
  | 0, _, _ => rfl
  | n + 1, [], _ => by unfold Lib.validGoD; rw [if_pos rfl]
  | n + 1, c :: t, h => by
    have hc : c.toNat < 128 := by rcases h c (by simp) with h | h <;> omega
    unfold Lib.validGoD
    rw [if_neg (by simp), Lib.decodeL_ascii c t hc, if_neg (by simp; omega)]
    exact valid_go n t (fun d hd => h d (by simp [hd]))
theorem ofL_size (l : List UInt8) : (ofL l).size = l.length := by rw [← size_l, ofL_data]
theorem valid_c (l : List UInt8) (hl : l.length ≤ 1000) (hok : ∀ c ∈ l, okd c) (w W : World) (hT : T w) (hb : Below w.heap.size w W) :
    Calls Tryd.prog 15 #[.string (ofL l)] W fun e w' => e = .returned (.bool true) ∧ Below W.heap.size W w' := by
  have h := Tryd.utf8_ValidString (ofL l) W (by rw [ofL_size]; omega) (Go.Proofs.Utf8Tabs_below hT.2.2 hb)
  rw [ofL_data, show Lib.validD l = true from valid_go _ _ hok] at h
  exact h
theorem low_c (r : Nat) (hr : r < 256) (w W : World) (hT : T w) (hb : Below w.heap.size w W) :
    Calls Tryd.prog 16 #[.int .i32 (r : Int)] W fun e w' => e = .returned (.bool (Lib.isLowerL r)) ∧ w' = W := Tryd.unicode_IsLower r W hr (hT.1 W hb)
theorem up_c (r : Nat) (hr : r < 256) (w W : World) (hT : T w) (hb : Below w.heap.size w W) :
    Calls Tryd.prog 17 #[.int .i32 (r : Int)] W fun e w' => e = .returned (.bool (Lib.isUpperL r)) ∧ w' = W := Tryd.unicode_IsUpper r W hr (hT.1 W hb)
theorem trim_id (l : List UInt8) (hok : ∀ c ∈ l, okd c) : Lib.trimSpace l = l := by
  have key : ∀ l : List UInt8, (∀ c ∈ l, okd c) → l.dropWhile Lib.isSp = l := by
    intro l h
    cases l with
    | nil => rfl
    | cons c t =>
      rw [List.dropWhile_cons, if_neg]
      have hc := h c (by simp)
      unfold Lib.isSp
      intro e
      have : c = 9 ∨ c = 10 ∨ c = 11 ∨ c = 12 ∨ c = 13 ∨ c = 32 := by
        simp only [Bool.or_eq_true, beq_iff_eq] at e
        rcases e with ((((e | e) | e) | e) | e) | e <;> simp [e]
      unfold okd at hc
      rcases this with rfl | rfl | rfl | rfl | rfl | rfl <;> revert hc <;> decide
  unfold Lib.trimSpace
  rw [key l hok, key l.reverse (fun c hc => hok c (List.mem_reverse.1 hc)), List.reverse_reverse]
theorem space_c (l : List UInt8) (hl : l.length ≤ 1000) (hok : ∀ c ∈ l, okd c) (w W : World) (hT : T w) (hb : Below w.heap.size w W) :
    Calls Tryd.prog 19 #[.string (ofL l)] W fun e w' => e = .returned (.string (ofL l)) ∧ Below W.heap.size W w' := by
  refine (Tryd.strings_TrimSpace (ofL l) W (by rw [ofL_size]; omega) (fun j b hj => by
    rw [ofL_data] at hj
    rcases hok b (List.mem_of_getElem? hj) with h | h <;> omega) (hT.2.1 W hb)).mono ?_
  rintro e w' ⟨rfl, rfl⟩
  rw [ofL_data, trim_id l hok]
  exact ⟨rfl, Lib.bytesWorld_below W _ _⟩
theorem info9 : (Tryd.prog.info? 9).map (fun i => (i.zero, i.size, i.bytes)) = some (some (.string ⟨#[]⟩), 1, 16) := by kernel_rfl
theorem encode_ascii : ∀ c : Fin 128, Utf8.encode (c.val : Int) = ⟨#[UInt8.ofNat c.val]⟩ := by decide +kernel
theorem runesBytes_ascii (l : List UInt8) (h : ∀ c ∈ l, c.toNat < 128) : runesBytes (ofBs l) = ofL l := by
  have key : ∀ (l : List UInt8) (acc : ByteArray), (∀ c ∈ l, c.toNat < 128) → (ofBs l).foldl (fun r n => r ++ Utf8.encode n) acc = acc ++ ofL l := by
    intro l
    induction l with
    | nil => intro acc _; apply WideShapes.bytes_inj; simp [ofBs, ofL]
    | cons c t ih =>
      intro acc h
      have hc : c.toNat < 128 := h c (by simp)
      have e : ofBs (c :: t) = (c.toNat : Int) :: ofBs t := rfl
      rw [e, List.foldl_cons, ih _ (fun x hx => h x (by simp [hx]))]
      have e2 := encode_ascii ⟨c.toNat, hc⟩
      simp only at e2
      rw [e2]
      apply WideShapes.bytes_inj
      simp [ofL]
  have := key l ByteArray.empty h
  unfold runesBytes
  rw [this]
  apply WideShapes.bytes_inj
  simp [ofL]
/-- group q, as the row says it -/
theorem group_at {wr : World} {base A3 : Nat} {A : Option Addr} {c3 : Nat} {ok : Nat → Prop} {gs : List (List UInt8)} (hS : Kd.S RI 68 wr base ok (.slice A gs.length c3) (rg gs)) (q : Nat) (hq : q < gs.length) (hne : gs[q] ≠ []) :
    ∃ ad ad0 c0, A = some ad ∧ wr.cell? (ad.add q) = some (.slice (some ad0) (gs[q]).length c0) ∧ ∀ j (hj : j < (gs[q]).length), wr.cell? (ad0.add j) = some (.int .i32 ((gs[q][j]).toNat : Int)) := by
  have hC := (Kd.S_reads' hS).2.2
  obtain ⟨ad, c, e, _, hK, hc⟩ := Kd.C_get hC ([] : List Int) (q : Int) (by omega) (by rw [rg_len]; omega)
  have hrow : (rg gs).getD (q : Int).toNat [] = ofBs gs[q] := by
    simp [rg, List.getD_eq_getElem?_getD, List.getElem?_eq_getElem hq]
  rw [hrow] at hK
  obtain ⟨A0, c0, rfl, _, hR⟩ := hK
  have h0 := hc 0 _ rfl
  rw [Int.toNat_natCast, show RI.sz = 1 from rfl, Nat.mul_one, Nat.add_zero, ofBs_len] at h0
  have hp := List.length_pos_iff.2 hne
  obtain ⟨ad0, c1, e0, _, hK0, hc0⟩ := Kd.C_get hR (0 : Int) 0 (by omega) (by rw [ofBs_len]; omega)
  subst e0
  refine ⟨ad, ad0, c0, e, h0, fun j hj => ?_⟩
  obtain ⟨ad1, c2, e1, _, hK1, hc1⟩ := Kd.C_get hR (0 : Int) (j : Int) (by omega) (by rw [ofBs_len]; omega)
  injection e1 with e1
  subst e1
  have hK2 : c2 = [.int .i32 ((ofBs gs[q]).getD (j : Int).toNat 0)] := hK1
  subst hK2
  have h1 := hc1 0 _ rfl
  rw [Int.toNat_natCast, show (Kd.int .i32).sz = 1 from rfl, Nat.mul_one, Nat.add_zero] at h1
  rw [h1]
  simp [ofBs, List.getD_eq_getElem?_getD, List.getElem?_eq_getElem hj]
theorem conv_at {wr : World} {ad0 : Addr} {c0 : Nat} {z : List UInt8} (hok : ∀ c ∈ z, okd c) (hc : ∀ j (hj : j < z.length), wr.cell? (ad0.add j) = some (.int .i32 ((z[j]).toNat : Int))) : (convert 68 9 (.slice (some ad0) z.length c0)).run Tryd.prog wr = .ok (.string (ofL z)) wr := by
  have := run_convert_runes (P := Tryd.prog) wr 68 9 21 ad0 z.length c0 (ofBs z) (by rw [ofBs_len]; exact Nat.le_refl _) Tryd.underlying68 Tryd.underlying21 Tryd.underlying9 (fun i hi => by
    have hi2 : i < z.length := by rw [ofBs_len] at hi; exact hi
    rw [hc i hi2]
    simp [ofBs, List.getD_eq_getElem?_getD, List.getElem?_eq_getElem hi2])
  rw [this, List.take_of_length_le (by rw [ofBs_len]; exact Nat.le_refl _), runesBytes_ascii z (fun c hc => by rcases hok c hc with h | h <;> omega)]
end Go.Proofs.YtjioibigijflpaaDoor.CamS
