/-
  Proved: a script of Add and Get run over a cache without a callback gives what the plain functions give. Conditions: a size of 1 to 40, at most 1000 calls, keys that are ints.
-/
import Derived.Test.YtphnnbbgcnilgaaCacV
import Derived.Laws.Tables
import Derived.Test.YtphnnbbgcnilgaaGFnCachePurgex0
namespace Go.Proofs.Ytphnnbbgcnilgaa.CacW
open Go Go.RowKit Go.Proofs.YtphnnbbgcnilgaaW.PrintWords Go.Proofs.Ytphnnbbgcnilgaa.Common Go.Proofs.Ytphnnbbgcnilgaa.IMapN Go.Proofs.Ytphnnbbgcnilgaa.CacA Go.Proofs.Ytphnnbbgcnilgaa.CacS Go.Proofs.Ytphnnbbgcnilgaa.CacT Go.Proofs.Ytphnnbbgcnilgaa.CacU Go.Proofs.Ytphnnbbgcnilgaa.CacV Go.Proofs.Ytphnnbbgcnilgaa.GFnCachePurge
set_option linter.unusedVariables false
set_option linter.unusedSimpArgs false
set_option maxRecDepth 1000000

/-- what a call gave: ok, key, value, rate (bits), asked, gone -/
structure S42 where
  f0 : Bool
  f1 : Int
  f2 : Int
  f3 : Nat
  f4 : Bool
  f5 : List (Int × Int)
def kpair : Kd (Int × Int) := Kd.pair (Kd.int .i64) (Kd.int .i64)
def kfl : Kd Nat := Kd.scalar (Value.float .f64) (fun _ => rfl)
def k42 : Kd S42 := Kd.iso (Kd.pair Kd.bool (Kd.pair (Kd.int .i64) (Kd.pair (Kd.int .i64) (Kd.pair kfl (Kd.pair Kd.bool (Kd.slice 64 kpair)))))) (fun x : S42 => (x.f0, x.f1, x.f2, x.f3, x.f4, x.f5))
theorem k42_mkM (w : World) (base : Nat) (ok : Nat → Prop) (x : S42) {v : Value} (g : kpair.R 64 w base ok v x.f5) : k42.M w base ok x [.bool x.f0, .int .i64 x.f1, .int .i64 x.f2, .float .f64 x.f3, .bool x.f4, v] :=
  ⟨[.bool x.f0], [.int .i64 x.f1, .int .i64 x.f2, .float .f64 x.f3, .bool x.f4, v], rfl, rfl, ⟨[.int .i64 x.f1], [.int .i64 x.f2, .float .f64 x.f3, .bool x.f4, v], rfl, rfl, ⟨[.int .i64 x.f2], [.float .f64 x.f3, .bool x.f4, v], rfl, rfl, ⟨[.float .f64 x.f3], [.bool x.f4, v], rfl, rfl, ⟨[.bool x.f4], [v], rfl, rfl, ⟨v, rfl, g⟩⟩⟩⟩⟩⟩
theorem k42_open {w : World} {x : S42} {cs : List Value} (h : k42.K w x cs) : ∃ A c, cs = [.bool x.f0, .int .i64 x.f1, .int .i64 x.f2, .float .f64 x.f3, .bool x.f4, .slice A x.f5.length c] ∧ x.f5.length ≤ c ∧ kpair.C w A x.f5.length x.f5 := by
  obtain ⟨_, _, rfl, rfl, _, _, rfl, rfl, _, _, rfl, rfl, _, _, rfl, rfl, _, _, rfl, rfl, A, c, rfl, l, g⟩ := h
  exact ⟨A, c, rfl, l, g⟩
theorem info42 : (Try.prog.info? 42).map (fun i => (i.zero, i.size, i.bytes)) = some (some (.agg #[.bool false, .int .i64 0, .int .i64 0, .float .f64 0, .bool false, .slice none 0 0]), k42.sz, 64) := by kernel_rfl

/-! ### the plain functions -/
structure St where
  l : List KV
  hits : Int
  miss : Int
def stepC (n : Int) (s : St) (o : S33) : St × S42 :=
  if o.f0 = 0 then
    let r := addF n s.l o.f1 o.f2
    (⟨r.1, s.hits, s.miss⟩, ⟨r.2, 0, 0, 0, false, []⟩)
  else
    let r := getF s.l o.f1
    (⟨r.1, if r.2.2 = true then s.hits + 1 else s.hits, if r.2.2 = true then s.miss else s.miss + 1⟩, ⟨r.2.2, 0, r.2.1, 0, false, []⟩)
def runs (n : Int) : St → List S33 → List S42
  | _, [] => []
  | s, o :: t => (stepC n s o).2 :: runs n (stepC n s o).1 t
def after (n : Int) : St → List S33 → St
  | s, [] => s
  | s, o :: t => after n (stepC n s o).1 t
theorem runs_len (n : Int) : ∀ (l : List S33) (s : St), (runs n s l).length = l.length
  | [], _ => rfl
  | o :: t, s => by rw [runs, List.length_cons, List.length_cons, runs_len n t]
theorem runs_snoc (n : Int) : ∀ (l : List S33) (s : St) (o : S33), runs n s (l ++ [o]) = runs n s l ++ [(stepC n (after n s l) o).2] ∧ after n s (l ++ [o]) = (stepC n (after n s l) o).1
  | [], s, o => ⟨rfl, rfl⟩
  | x :: t, s, o => by
    obtain ⟨h1, h2⟩ := runs_snoc n t (stepC n s x).1 o
    exact ⟨by rw [List.cons_append, runs, h1]; rfl, by rw [List.cons_append, after, h2]; rfl⟩

/-! ### the state of a round -/
structure RS (w0 : World) (C m b8 : Nat) (n : Int) (st : St) (outs : List S42) (v : Value) (l : List E) (W : World) : Prop where
  cs : CS .nilFunc C n m st.hits st.miss l W
  kl : kvs l = st.l
  gone : W.heap[b8]? = some (.cells #[.slice none 0 0] 40 (0, 0))
  row : k42.R 42 W w0.heap.size (fun _ => True) v outs
  bel : Below w0.heap.size w0 W
  lo : ∀ b, own C m l b → w0.heap.size ≤ b
  lb : w0.heap.size ≤ b8
structure IR (wr : World) (C m b8 gx go : Nat) (n : Int) (hits miss : Int) (l0 l : List E) (x : S33) (oc : Array Value) (W : World) : Prop where
  cs : CS .nilFunc C n m hits miss l W
  hx : W.heap[gx]? = some (.cells #[.int .i64 x.f0, .int .i64 x.f1, .int .i64 x.f2] 33 (0, 0))
  hg : W.heap[b8]? = some (.cells #[.slice none 0 0] 40 (0, 0))
  ho : W.heap[go]? = some (.cells oc 42 (0, 0))
  kp : KeptB (fun b => b = b8 ∨ own C m l0 b) wr W
  lgo : wr.heap.size ≤ go
  sub : ∀ b, own C m l b → own C m l0 b ∨ wr.heap.size ≤ b
theorem own_typ {ev : Value} {C m : Nat} {sz hits miss : Int} {l : List E} {W : World} (h : CS ev C sz m hits miss l W) {g t : Nat} {T : Array Value} (hg : W.heap[g]? = some (.cells T t (0, 0))) (h1 : t ≠ 94) (h2 : t ≠ 97) : ¬ own C m l g := by
  rintro (rfl | rfl | ⟨x, hx, rfl⟩)
  · exact typ_ne hg h.dl.hd h1 rfl
  · obtain ⟨es, c, hb, _⟩ := h.mp; rw [hb] at hg; cases hg
  · obtain ⟨p', n', hb⟩ := seg_mem _ _ _ h.dl.sg x hx
    exact typ_ne hg hb h2 rfl
theorem IR.put {wr : World} {C m b8 gx go : Nat} {n hits miss : Int} {l0 l : List E} {x : S33} {oc : Array Value} {W : World} (h : IR wr C m b8 gx go n hits miss l0 l x oc W) (j : Nat) (u : Value) :
    IR wr C m b8 gx go n hits miss l0 l x (oc.setIfInBounds j u) (W.setCell ⟨go, j, none⟩ u) :=
  ⟨CS.frame h.cs (fun b hb => set_far _ _ _ _ _ (fun e => own_typ h.cs h.ho (by decide) (by decide) (e ▸ hb))), (set_far _ _ _ _ _ (typ_ne h.hx h.ho (by decide))).trans h.hx, (set_far _ _ _ _ _ (typ_ne h.hg h.ho (by decide))).trans h.hg, set_blk _ _ _ _ _ _ h.ho, h.kp.set (Or.inr h.lgo) _, h.lgo, h.sub⟩
theorem IR.call {wr : World} {C m b8 gx go : Nat} {n hits miss hits' miss' : Int} {l0 l' : List E} {x : S33} {oc : Array Value} {W W' : World} (h : IR wr C m b8 gx go n hits miss l0 l0 x oc W) (hc : CS .nilFunc C n m hits' miss' l' W') (hk : KeptB (own C m l0) W W')
    (hs : ∀ b, own C m l' b → own C m l0 b ∨ W.heap.size ≤ b) : IR wr C m b8 gx go n hits' miss' l0 l' x oc W' := by
  have lt : ∀ {g t : Nat} {T : Array Value}, W.heap[g]? = some (.cells T t (0, 0)) → g < W.heap.size := fun h => (Array.getElem?_eq_some_iff.1 h).1
  refine ⟨hc, (hk.blk _ (lt h.hx) (own_typ h.cs h.hx (by decide) (by decide))).trans h.hx, (hk.blk _ (lt h.hg) (own_typ h.cs h.hg (by decide) (by decide))).trans h.hg, (hk.blk _ (lt h.ho) (own_typ h.cs h.ho (by decide) (by decide))).trans h.ho, h.kp.trans hk (fun b _ hb => Or.inr hb), h.lgo, fun b hb => ?_⟩
  rcases hs b hb with h1 | h1
  · exact Or.inl h1
  · exact Or.inr (Nat.le_trans h.kp.size h1)
theorem IR.facts {wr : World} {C m b8 gx go : Nat} {n hits miss : Int} {l0 l : List E} {x : S33} {oc : Array Value} {W : World} (h : IR wr C m b8 gx go n hits miss l0 l x oc W) :
    (W.cell? ⟨gx, 0, none⟩ = some (.int .i64 x.f0) ∧ W.cell? ⟨gx, 1, none⟩ = some (.int .i64 x.f1) ∧ W.cell? ⟨gx, 2, none⟩ = some (.int .i64 x.f2) ∧ W.cell? ⟨b8, 0, none⟩ = some (.slice none 0 0)) ∧ ∀ i, W.frozen? ⟨go, i, none⟩ = false :=
  ⟨⟨(blk_cell h.hx 0).trans rfl, (blk_cell h.hx 1).trans rfl, (blk_cell h.hx 2).trans rfl, (blk_cell h.hg 0).trans rfl⟩, fun i => blk_frozen h.ho i⟩
theorem KeptB.setRow {S : Nat → Prop} {W W1 : World} (h : KeptB S W W1) {g : Nat} (hp : S g ∨ W.heap.size ≤ g) (cs : Array Value) : KeptB S W (W1.setRow g cs) :=
  ⟨h.os, h.tape, h.output, by rw [setRow_size]; exact h.size, fun b hb hn => (setRow_other W1 g b cs (fun e => by subst e; rcases hp with hp | hp; exact hn hp; omega)).trans (h.blk b hb hn)⟩
theorem row_event {P : Program} {ops : Array Oper} {rest : List Oper} {o : Oper} {a : Act} {Q : Exit → Act → World → Prop} {W : World} (hgd : o.guard = none) {ty : TypeId} {p : Tmp} {v : Operand} (ho : o.op = .store ty (.tmp p) v) (hN : o.dst = none) (g : Nat) (cells : Array Value)
    (hx : a.eval (.tmp p) = .pointer (some ⟨g, 0, none⟩)) (hy : a.eval v = .agg cells) (t : TypeId) (old : Array Value) (hg : W.heap[g]? = some (.cells old t (0, 0))) (hi : (P.info? ty).map (·.size) = some cells.size) (hold : old.size = cells.size) (h1 : cells.all (·.oneCell') = true)
    (h : ∀ w', w' = W.setRow g cells → wpList P ops Q rest a w') : wpList P ops Q (o :: rest) a W := by
  refine wpList_plain hgd fun K hK => ?_
  refine wp_store_row ty _ v ho g cells hx hy t old hg hi hold h1 ?_
  rw [hN]
  exact hK _ _ (h _ rfl)
/-- the round's boxes are made -/
theorem ready {w0 : World} {C m b8 gx go : Nat} {n : Int} {st : St} {outs : List S42} {v : Value} {l : List E} {wr W1 W2 W3 W4 W5 : World} {x : S33} (h : RS w0 C m b8 n st outs v l wr)
    (hgx : gx = wr.heap.size) (h1 : W1.heap[gx]? = some (.cells #[.int .i64 0, .int .i64 0, .int .i64 0] 33 (0, 0))) (b1 : Below wr.heap.size wr W1)
    (e2 : W2 = W1.setRow gx #[.int .i64 x.f0, .int .i64 x.f1, .int .i64 x.f2])
    (e3 : W3 = W2.setCell ⟨b8, 0, none⟩ (.slice none 0 0))
    (hgo : go = W3.heap.size) (h4 : W4.heap[go]? = some (.cells #[.bool false, .int .i64 0, .int .i64 0, .float .f64 0, .bool false, .slice none 0 0] 42 (0, 0))) (b4 : Below W3.heap.size W3 W4)
    (e5 : W5 = W4.setRow go #[.bool false, .int .i64 0, .int .i64 0, .float .f64 0, .bool false, .slice none 0 0]) :
    IR wr C m b8 gx go n st.hits st.miss l l x #[.bool false, .int .i64 0, .int .i64 0, .float .f64 0, .bool false, .slice none 0 0] W5 := by
  have lt : ∀ {W : World} {g t : Nat} {T : Array Value}, W.heap[g]? = some (.cells T t (0, 0)) → g < W.heap.size := fun h => (Array.getElem?_eq_some_iff.1 h).1
  have olt := CS.lt h.cs
  have k1 : KeptB (fun b => b = b8 ∨ own C m l b) wr W1 := ⟨b1.os, b1.tape, b1.output, b1.size, fun b hb _ => b1.block b hb⟩
  have k2 : KeptB (fun b => b = b8 ∨ own C m l b) wr W2 := by
    rw [e2]
    exact KeptB.setRow k1 (Or.inr (Nat.le_of_eq hgx.symm)) _
  have o2 : ∀ b, b < wr.heap.size → W2.heap[b]? = wr.heap[b]? := fun b hb => by
    have hn : b ≠ gx := by omega
    rw [e2, setRow_other _ _ _ _ hn]
    exact b1.block b hb
  have x2 : W2.heap[gx]? = some (.cells #[.int .i64 x.f0, .int .i64 x.f1, .int .i64 x.f2] 33 (0, 0)) := by
    rw [e2]
    exact setRow_heap _ _ _ _ _ _ h1
  have g2 := (o2 b8 (lt h.gone)).trans h.gone
  have g3 : W3.heap[b8]? = some (.cells #[.slice none 0 0] 40 (0, 0)) := by rw [e3]; exact (set_blk _ _ _ _ _ _ g2).trans rfl
  have x3 : W3.heap[gx]? = some (.cells #[.int .i64 x.f0, .int .i64 x.f1, .int .i64 x.f2] 33 (0, 0)) := by rw [e3, set_far _ _ _ _ _ (typ_ne x2 g2 (by decide))]; exact x2
  have hnb : ∀ b, own C m l b → b ≠ b8 := fun b hb e => own_typ h.cs h.gone (by decide) (by decide) (by rw [← e]; exact hb)
  have c3 : CS .nilFunc C n m st.hits st.miss l W3 := CS.frame h.cs (fun b hb => by
    rw [e3, set_far _ _ _ _ _ (hnb b hb)]
    exact o2 b (olt b hb))
  have k3 : KeptB (fun b => b = b8 ∨ own C m l b) wr W3 := by rw [e3]; exact k2.set (Or.inl (Or.inl rfl)) _
  have i4 : IR wr C m b8 gx go n st.hits st.miss l l x #[.bool false, .int .i64 0, .int .i64 0, .float .f64 0, .bool false, .slice none 0 0] W4 :=
    ⟨CS.frame c3 (fun b hb => b4.block b (CS.lt c3 b hb)), (b4.block gx (lt x3)).trans x3, (b4.block b8 (lt g3)).trans g3, h4, ⟨b4.os.trans k3.os, b4.tape.trans k3.tape, b4.output.trans k3.output, Nat.le_trans k3.size b4.size, fun b hb hn => (b4.block b (Nat.lt_of_lt_of_le hb k3.size)).trans (k3.blk b hb hn)⟩, by rw [hgo]; exact k3.size, fun b hb => Or.inl hb⟩
  have hne : ∀ b, own C m l b → b ≠ go := fun b hb e => own_typ i4.cs i4.ho (by decide) (by decide) (by rw [← e]; exact hb)
  rw [e5]
  exact ⟨CS.frame i4.cs (fun b hb => setRow_other _ _ _ _ (hne b hb)), (setRow_other _ _ _ _ (typ_ne i4.hx i4.ho (by decide))).trans i4.hx, (setRow_other _ _ _ _ (typ_ne i4.hg i4.ho (by decide))).trans i4.hg, setRow_heap _ _ _ _ _ _ i4.ho, KeptB.setRow i4.kp (Or.inr i4.lgo) _, i4.lgo, i4.sub⟩
end Go.Proofs.Ytphnnbbgcnilgaa.CacW
