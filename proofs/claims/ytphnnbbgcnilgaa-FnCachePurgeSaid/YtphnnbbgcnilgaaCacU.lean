/-
  Proved: Add and Get of a cache. Conditions: the cache's state; no callback.
-/
import Derived.Test.YtphnnbbgcnilgaaCacT
namespace Go.Proofs.Ytphnnbbgcnilgaa.CacU
open Go Go.RowKit Go.Proofs.YtphnnbbgcnilgaaW.PrintWords Go.Proofs.Ytphnnbbgcnilgaa.Common Go.Proofs.Ytphnnbbgcnilgaa.IMapN Go.Proofs.Ytphnnbbgcnilgaa.CacA Go.Proofs.Ytphnnbbgcnilgaa.CacB Go.Proofs.Ytphnnbbgcnilgaa.CacR Go.Proofs.Ytphnnbbgcnilgaa.CacS Go.Proofs.Ytphnnbbgcnilgaa.CacT
set_option linter.unusedVariables false
set_option linter.unusedSimpArgs false
set_option maxRecDepth 1000000

abbrev KV := Int × Int
def kvs (l : List E) : List KV := l.map (·.2)
def has (l : List KV) (k : Int) : Prop := ∃ x ∈ l, x.1 = k
def without (l : List KV) (k : Int) : List KV := l.filter fun x => decide (x.1 ≠ k)
theorem without_none {l : List KV} {k : Int} (h : ∀ x ∈ l, x.1 ≠ k) : without l k = l := List.filter_eq_self.2 (fun x hx => decide_eq_true (h x hx))
theorem without_mid {A B : List E} {g : Nat} {k v : Int} (h : (A ++ (g, k, v) :: B).Pairwise fun a b => a.2.1 ≠ b.2.1) : without (kvs (A ++ (g, k, v) :: B)) k = kvs (A ++ B) := by
  have hn := (nk_mid h).1
  unfold without kvs
  rw [List.map_append, List.filter_append, List.map_cons, List.filter_cons, if_neg (by simp), ← List.filter_append, ← List.map_append]
  refine List.filter_eq_self.2 (fun x hx => decide_eq_true ?_)
  obtain ⟨y, hy, rfl⟩ := List.mem_map.1 hx
  exact hn y hy
theorem zero92 (w : World) : (zeroValue 92).run Try.prog w = .ok (.pointer none) w := by kernel_rfl
theorem DL.frame {ev : Value} {C : Nat} {sz : Int} {m : Nat} {hits miss : Int} {l : List E} {W W1 : World} (h : DL ev C sz m hits miss l W) (hC : W1.heap[C]? = W.heap[C]?) (hE : ∀ x ∈ l, W1.heap[x.1]? = W.heap[x.1]?) : DL ev C sz m hits miss l W1 :=
  ⟨hC.trans h.hd, seg_frame _ _ _ h.sg hE, h.nd⟩
theorem CS.frame {ev : Value} {C : Nat} {sz : Int} {m : Nat} {hits miss : Int} {l : List E} {W W1 : World} (h : CS ev C sz m hits miss l W) (hb : ∀ b, own C m l b → W1.heap[b]? = W.heap[b]?) : CS ev C sz m hits miss l W1 :=
  ⟨DL.frame h.dl (hb C (Or.inl rfl)) (fun x hx => hb x.1 (Or.inr (Or.inr ⟨x, hx, rfl⟩))), imapN_of_heap h.mp (hb m (Or.inr (Or.inl rfl))), h.nk, h.kr⟩
theorem CS.lt {ev : Value} {C : Nat} {sz : Int} {m : Nat} {hits miss : Int} {l : List E} {W : World} (h : CS ev C sz m hits miss l W) : ∀ b, own C m l b → b < W.heap.size := by
  rintro b (rfl | rfl | ⟨x, hx, rfl⟩)
  · exact (Array.getElem?_eq_some_iff.1 h.dl.hd).1
  · exact imapN_lt h.mp
  · obtain ⟨p', n', hb⟩ := seg_mem _ _ _ h.dl.sg x hx
    exact (Array.getElem?_eq_some_iff.1 hb).1
/-- an entry's value is written -/
theorem CS.val {ev : Value} {C : Nat} {sz : Int} {m : Nat} {hits miss : Int} {A B : List E} {g : Nat} {k v0 : Int} {W : World} (h : CS ev C sz m hits miss (A ++ (g, k, v0) :: B) W) (v : Int) : CS ev C sz m hits miss (A ++ (g, k, v) :: B) (W.setCell ⟨g, 1, none⟩ (.int .i64 v)) := by
  have hn := nd_mid h.dl.nd
  have hs := (seg_append _ _ _ _).1 h.dl.sg
  have hgC : C ≠ g := (typ_ne h.dl.hd hs.2.1 (by decide))
  refine ⟨⟨?_, (seg_append _ _ _ _).2 ⟨seg_frame _ _ _ hs.1 (fun y hy => set_far _ _ _ _ _ (hn y (by simp [hy]))), (set_blk _ _ _ _ _ _ hs.2.1).trans rfl, seg_frame _ _ _ hs.2.2 (fun y hy => set_far _ _ _ _ _ (hn y (by simp [hy])))⟩, ?_⟩, ?_, ?_, ?_⟩
  · rw [set_far _ _ _ _ _ hgC, h.dl.hd, lastO_append _ _ _ none none, lastO_append _ _ _ none none, lastO_cons, lastO_cons, headO_append, headO_append]
    rfl
  · have := h.dl.nd
    rw [List.pairwise_append, List.pairwise_cons] at this ⊢
    refine ⟨this.1, this.2.1, fun a ha b hb => ?_⟩
    rcases List.mem_cons.1 hb with rfl | hb
    · exact this.2.2 a ha (g, k, v0) (by simp)
    · exact this.2.2 a ha b (by simp [hb])
  · have e : lookE (A ++ (g, k, v) :: B) = lookE (A ++ (g, k, v0) :: B) := by
      have := (nk_mid h.nk).1
      rw [lookE_mid A B g k v (fun x hx => this x (by simp [hx])), lookE_mid A B g k v0 (fun x hx => this x (by simp [hx]))]
    rw [e, show (A ++ (g, k, v) :: B).length = (A ++ (g, k, v0) :: B).length by simp]
    exact imapN_setCell h.mp _ (h.mne.2 (g, k, v0) (by simp)) _
  · have := h.nk
    rw [List.pairwise_append, List.pairwise_cons] at this ⊢
    refine ⟨this.1, this.2.1, fun a ha b hb => ?_⟩
    rcases List.mem_cons.1 hb with rfl | hb
    · exact this.2.2 a ha (g, k, v0) (by simp)
    · exact this.2.2 a ha b (by simp [hb])
  · intro x hx
    simp only [List.mem_append, List.mem_cons] at hx
    rcases hx with hx | rfl | hx
    · exact h.kr x (by simp [hx])
    · exact h.kr (g, k, v0) (by simp)
    · exact h.kr x (by simp [hx])
theorem lookE_at {A B : List E} {g : Nat} {k v : Int} (h : (A ++ (g, k, v) :: B).Pairwise fun a b => a.2.1 ≠ b.2.1) : lookE (A ++ (g, k, v) :: B) k = some (.pointer (some ⟨g, 0, none⟩)) := by
  rw [lookE_mid A B g k v (fun x hx => (nk_mid h).1 x (by simp [hx]))]; simp
set_option maxHeartbeats 1000000 in
theorem add_hit {ev : Value} {C m : Nat} {sz hits miss : Int} {A B : List E} {g : Nat} {k v0 v : Int} {w : World} (h : CS ev C sz m hits miss (A ++ (g, k, v0) :: B) w) (hsz : 0 < sz) :
    Calls Try.prog 29 #[.pointer (some ⟨C, 0, none⟩), .int .i64 k, .int .i64 v] w fun e w' => e = .returned (.bool false) ∧ CS ev C sz m hits miss ((g, k, v) :: (A ++ B)) w' ∧ KeptB (own C m (A ++ (g, k, v0) :: B)) w w' := by
  have q0 : w.cell? ⟨C, 0, none⟩ = some (.int .i64 sz) := (blk_cell h.dl.hd 0).trans rfl
  have q1 : w.cell? ⟨C, 1, none⟩ = some (.map (some m)) := (blk_cell h.dl.hd 1).trans rfl
  have qd : decide (sz ≤ 0) = false := decide_eq_false (by omega)
  have hs := (seg_append _ _ _ _).1 h.dl.sg
  have g1 : w.cell? ⟨g, 1, none⟩ = some (.int .i64 v0) := (blk_cell hs.2.1 1).trans rfl
  have gf : w.frozen? ⟨g, 1, none⟩ = false := blk_frozen hs.2.1 1
  have HL := Aside0.mk h
  have HK := Aside0.mk (lookE_at h.nk)
  have HW := Aside0.mk (h.kr (g, k, v0) (by simp))
  clear h hs hsz
  go_enter Try.func29, Try.ntmps29
  go_wp2_with (first
    | (at_lookup; refine wp_lookup rfl _ _ true rfl Try.underlying91 Try.underlying3 _ (zero92 _) rfl HL.out.mp.im k rfl HW.out ?_; rw [HK.out]; simp only [if_true, Option.getD_some, Option.isSome_some])
    | (go_at_call 50; refine (move_c (CS.val HL.out v)).mono ?_; rintro e w1 ⟨u, rfl, h1, h2⟩; have H1 := Aside0.mk h1; have H2 := Aside0.mk h2; clear h1 h2))
  go_ret
  refine ⟨rfl, H1.out, ?_⟩
  refine ((KeptB.refl (own C m (A ++ (g, k, v0) :: B)) w).set (Or.inl (Or.inr (Or.inr ⟨(g, k, v0), by simp, rfl⟩))) _).trans H2.out (fun b _ hb => ?_)
  rcases hb with hb | hb | ⟨x, hx, hb⟩
  · exact Or.inl hb
  · exact Or.inr (Or.inl hb)
  · simp only [List.mem_append, List.mem_cons] at hx
    rcases hx with hx | rfl | hx
    · exact Or.inr (Or.inr ⟨x, by simp [hx], hb⟩)
    · exact Or.inr (Or.inr ⟨(g, k, v0), by simp, hb⟩)
    · exact Or.inr (Or.inr ⟨x, by simp [hx], hb⟩)
/-- a new entry at a fresh block, on the list and in the map: what is behind addToFront -/
theorem cs_new {ev : Value} {C m : Nat} {sz hits miss : Int} {l : List E} {g : Nat} {k v : Int} {W W1 W2 W3 : World} (h : CS ev C sz m hits miss l W) (hk : ∀ x ∈ l, x.2.1 ≠ k) (hw : (Lit.int .i64 k).wf = true)
    (hg : W.heap.size ≤ g) (h1 : KeptB (fun _ => False) W W1) (h2 : DL ev C sz m hits miss ((g, k, v) :: l) W2) (h3 : Away C ((g, k, v) :: l) W1 W2)
    (h4 : imapN W3 .i64 m (fun n => if n = k then some (.pointer (some ⟨g, 0, none⟩)) else lookE l n) (l.length + 1)) (h5 : W2.grownBy W3 (some m)) :
    CS ev C sz m hits miss ((g, k, v) :: l) W3 ∧ KeptB (own C m l) W W3 := by
  have hm := h.mne
  have hlt := CS.lt h
  have hC2 := (Array.getElem?_eq_some_iff.1 h2.hd).1
  refine ⟨⟨DL.frame h2 (h5.block C hC2 (fun e => hm.1 (by injection e with e; exact e.symm))) (fun x hx => ?_), ?_, List.Pairwise.cons (fun y hy e => hk y hy e.symm) h.nk, ?_⟩, ?_⟩
  · obtain ⟨p', n', hb⟩ := seg_mem _ _ _ h2.sg x hx
    refine h5.block x.1 (Array.getElem?_eq_some_iff.1 hb).1 (fun e => ?_)
    injection e with e
    rcases List.mem_cons.1 hx with rfl | hx
    · have := hlt m (Or.inr (Or.inl rfl)); dsimp only at e; omega
    · exact hm.2 x hx e
  · rw [lookE_cons]; exact h4
  · intro x hx
    rcases List.mem_cons.1 hx with rfl | hx
    · exact hw
    · exact h.kr x hx
  · have k1 : KeptB (own C m l) W W1 := ⟨h1.os, h1.tape, h1.output, h1.size, fun b hb _ => h1.blk b hb id⟩
    refine (k1.trans (h3.kept (m := m)) (fun b hb ho => ?_)).grown h5 (fun j e => Or.inl (Or.inr (Or.inl (by injection e with e; exact e.symm))))
    rcases ho with ho | ho | ⟨x, hx, ho⟩
    · exact Or.inl ho
    · exact Or.inr (Or.inl ho)
    · rcases List.mem_cons.1 hx with rfl | hx
      · dsimp only at ho; omega
      · exact Or.inr (Or.inr ⟨x, hx, ho⟩)
theorem wp_storeN {P : Program} {w : World} {q : IntKind} {b c : Nat} {f : Int → Option Value} {t kt et : TypeId} {ops : Array Oper} {rest : List Oper} {o : Oper} {a : Act} {Q : Exit → Act → World → Prop}
    (hg : o.guard = none) (m x v : Operand) (hop : o.op = Op.mapUpdate t m x v) (ht : P.underlying t = some (.map kt et)) (hk : P.underlying kt = some (.int q))
    (hm : a.eval m = .map (some b)) (h : imapN w q b f c) (n : Int) (hx : a.eval x = .int q n) (hw : (Lit.int q n).wf = true) (hn : f n = none)
    (hK : ∀ w', imapN w' q b (fun m => if m = n then some (a.eval v) else f m) (c + 1) → w.grownBy w' (some b) → wpList P ops Q rest (a.put o.dst undef) w') :
    wpList P ops Q (o :: rest) a w := by
  refine wpList_plain hg fun K' hK' => ?_
  obtain ⟨w', hrun, r1, r2, _⟩ := imapN_store h ht hk n hw hn (a.eval v)
  unfold Oper.wp
  simp [execOp, hop, hm, hx, hrun, Result.andThen]
  exact hK' _ _ (hK w' r1 r2)
theorem imapN_alloc {q : IntKind} {b c : Nat} {f : Int → Option Value} {W : World} (h : imapN W q b f c) (o : Obj) : imapN (W.alloc o) q b f c := imapN_of_heap h (Below.heap_alloc _ _ _ (imapN_lt h))
theorem mne_new {ev : Value} {C m : Nat} {sz hits miss k v : Int} {l : List E} {W : World} (h : CS ev C sz m hits miss l W) : ∀ x ∈ (W.heap.size, k, v) :: l, x.1 ≠ m := fun x hx => by
  rcases List.mem_cons.1 hx with rfl | hx
  · exact fun e => by have := imapN_lt h.mp; dsimp only at e; omega
  · exact h.mne.2 x hx
/-- a new entry's block beside the list -/
theorem dl_box {ev : Value} {C m : Nat} {sz hits miss : Int} {l : List E} {k v : Int} {W : World} (h : DL ev C sz m hits miss l W) :
    DL ev C sz m hits miss l (W.alloc (.cells #[.int .i64 k, .int .i64 v, .pointer none, .pointer none] 97 (0, 0))) ∧ (W.alloc (.cells #[.int .i64 k, .int .i64 v, .pointer none, .pointer none] 97 (0, 0))).heap[W.heap.size]? = some (.cells (nodeC k v none none) 97 (0, 0)) ∧ ∀ x ∈ l, x.1 ≠ W.heap.size := by
  have hlt : ∀ x ∈ l, x.1 < W.heap.size := fun x hx => by
    obtain ⟨p', n', hb⟩ := seg_mem _ _ _ h.sg x hx
    exact (Array.getElem?_eq_some_iff.1 hb).1
  exact ⟨DL.frame h (Below.heap_alloc _ _ _ (Array.getElem?_eq_some_iff.1 h.hd).1) (fun x hx => Below.heap_alloc _ _ _ (hlt x hx)), (MapKept.heap_alloc W _).1, fun x hx => Nat.ne_of_lt (hlt x hx)⟩
set_option maxHeartbeats 1000000 in
theorem add_miss {ev : Value} {C m : Nat} {sz hits miss : Int} {l : List E} {k v : Int} {w : World} (h : CS ev C sz m hits miss l w) (hk : ∀ x ∈ l, x.2.1 ≠ k) (hw : (Lit.int .i64 k).wf = true) (hsz : 0 < sz) (hl : (l.length : Int) < sz) :
    Calls Try.prog 29 #[.pointer (some ⟨C, 0, none⟩), .int .i64 k, .int .i64 v] w fun e w' => e = .returned (.bool false) ∧ ∃ g, w.heap.size ≤ g ∧ CS ev C sz m hits miss ((g, k, v) :: l) w' ∧ KeptB (own C m l) w w' := by
  have q0 : w.cell? ⟨C, 0, none⟩ = some (.int .i64 sz) := (blk_cell h.dl.hd 0).trans rfl
  have q1 : w.cell? ⟨C, 1, none⟩ = some (.map (some m)) := (blk_cell h.dl.hd 1).trans rfl
  have qd : decide (sz ≤ 0) = false := decide_eq_false (by omega)
  have qe : decide ((l.length : Int) ≥ sz) = false := decide_eq_false (by omega)
  have hlen : ∀ n, (Builtin.len_ #[91] 3 #[.map (some m)]).run Try.prog (w.drewN n) = .ok (.int .i64 (l.length : Int)) (w.drewN n) := fun n => imapN_len (imapN_of_heap h.mp ((pw_below_drewN (Below.refl w.heap.size w) n).block m (imapN_lt h.mp))) #[91] Try.underlying91 rfl 3
  have HL := Aside0.mk h
  have HK := Aside0.mk (lookE_none hk)
  have HN := Aside0.mk hk
  have HW := Aside0.mk hw
  clear h hsz hl hk hw
  go_enter Try.func29, Try.ntmps29
  go_wp2_with (first
    | (at_lookup; refine wp_lookup rfl _ _ true rfl Try.underlying91 Try.underlying3 _ (zero92 _) rfl HL.out.mp.im k rfl HW.out ?_; rw [HK.out]; simp only [if_true, Option.getD_none, Option.isSome_none]))
  go_quiet (fail)
  obtain ⟨wq, hwq⟩ : ∃ wq, wq = w.drewN nq := ⟨_, rfl⟩
  rw [← hwq]
  have HQ : Aside0 (CS ev C sz m hits miss l wq) := ⟨CS.frame HL.out (fun b _ => by rw [hwq]; rfl)⟩
  have HP : Aside0 (KeptB (own C m l) w wq) := ⟨by rw [hwq]; exact ⟨rfl, rfl, rfl, Nat.le_refl _, fun _ _ _ => rfl⟩⟩
  have HB := Aside0.mk (dl_box (k := k) (v := v) HQ.out.dl)
  clear hwq
  go_wp2_with (first
    | (go_at_call 52; refine (front_c HB.out.1 HB.out.2.1 HB.out.2.2).mono ?_; rintro e w2 ⟨u, rfl, h1, h2⟩; have p1 : w2.cell? ⟨C, 1, none⟩ = some (.map (some m)) := (blk_cell h1.hd 1).trans rfl; have H1 := Aside0.mk h1; have H2 := Aside0.mk h2; clear h1 h2)
    | (at_mapUpdate; refine wp_storeN rfl _ _ _ rfl Try.underlying91 Try.underlying3 rfl (imapN_away (imapN_alloc HQ.out.mp _) H2.out HQ.out.mne.1 (mne_new HQ.out)) k rfl HW.out HK.out ?_; intro w3 h1 h2; have H3 := Aside0.mk h1; have H4 := Aside0.mk h2; clear h1 h2))
  go_ret
  have k0 : KeptB (fun _ => False) wq (wq.alloc (.cells #[.int .i64 k, .int .i64 v, .pointer none, .pointer none] 97 (0, 0))) := (KeptB.refl _ _).alloc _
  obtain ⟨c1, c2⟩ := cs_new HQ.out HN.out HW.out (Nat.le_refl _) k0 H1.out H2.out H3.out H4.out
  exact ⟨rfl, wq.heap.size, HP.out.size, c1, HP.out.trans c2 (fun _ _ h => h)⟩
set_option maxHeartbeats 1000000 in
theorem add_full {ev : Value} {C m : Nat} {sz hits miss : Int} {l A : List E} {k v : Int} {w : World} {Rel : World → Prop} (h : CS ev C sz m hits miss l w) (hO : ∀ W, (∃ n, W = w.drewN n) → Calls Try.prog 51 #[.pointer (some ⟨C, 0, none⟩)] W fun e w1 => ∃ u, e = .returned u ∧ CS ev C sz m hits miss A w1 ∧ Rel w1)
    (hk : ∀ x ∈ l, x.2.1 ≠ k) (hk2 : ∀ x ∈ A, x.2.1 ≠ k) (hw : (Lit.int .i64 k).wf = true) (hsz : 0 < sz) (hl : sz ≤ (l.length : Int)) :
    Calls Try.prog 29 #[.pointer (some ⟨C, 0, none⟩), .int .i64 k, .int .i64 v] w fun e w' => e = .returned (.bool true) ∧ ∃ w1, Rel w1 ∧ ∃ g, w1.heap.size ≤ g ∧ CS ev C sz m hits miss ((g, k, v) :: A) w' ∧ KeptB (own C m A) w1 w' := by
  have q0 : w.cell? ⟨C, 0, none⟩ = some (.int .i64 sz) := (blk_cell h.dl.hd 0).trans rfl
  have q1 : w.cell? ⟨C, 1, none⟩ = some (.map (some m)) := (blk_cell h.dl.hd 1).trans rfl
  have qd : decide (sz ≤ 0) = false := decide_eq_false (by omega)
  have qe : decide ((l.length : Int) ≥ sz) = true := decide_eq_true (by omega)
  have hlen : ∀ n, (Builtin.len_ #[91] 3 #[.map (some m)]).run Try.prog (w.drewN n) = .ok (.int .i64 (l.length : Int)) (w.drewN n) := fun n => imapN_len (imapN_of_heap h.mp ((pw_below_drewN (Below.refl w.heap.size w) n).block m (imapN_lt h.mp))) #[91] Try.underlying91 rfl 3
  have HL := Aside0.mk h
  have HK := Aside0.mk (lookE_none hk)
  have HK2 := Aside0.mk (lookE_none hk2)
  have HN := Aside0.mk hk2
  have HW := Aside0.mk hw
  have HO := Aside0.mk hO
  clear h hsz hl hk hk2 hw hO
  go_enter Try.func29, Try.ntmps29
  go_wp2_with (first
    | (at_lookup; refine wp_lookup rfl _ _ true rfl Try.underlying91 Try.underlying3 _ (zero92 _) rfl HL.out.mp.im k rfl HW.out ?_; rw [HK.out]; simp only [if_true, Option.getD_none, Option.isSome_none]))
  go_quiet (fail)
  go_wp2_with (first
    | (go_at_call 51; refine (HO.out _ ⟨nq, rfl⟩).mono ?_; rintro e wq ⟨u, rfl, h1, h2⟩; have HQ := Aside0.mk h1; have HR := Aside0.mk h2; have HB := Aside0.mk (dl_box (k := k) (v := v) h1.dl); clear h1 h2)
    | (go_at_call 52; refine (front_c HB.out.1 HB.out.2.1 HB.out.2.2).mono ?_; rintro e w2 ⟨u, rfl, h1, h2⟩; have p1 : w2.cell? ⟨C, 1, none⟩ = some (.map (some m)) := (blk_cell h1.hd 1).trans rfl; have H1 := Aside0.mk h1; have H2 := Aside0.mk h2; clear h1 h2)
    | (at_mapUpdate; refine wp_storeN rfl _ _ _ rfl Try.underlying91 Try.underlying3 rfl (imapN_away (imapN_alloc HQ.out.mp _) H2.out HQ.out.mne.1 (mne_new HQ.out)) k rfl HW.out HK2.out ?_; intro w3 h1 h2; have H3 := Aside0.mk h1; have H4 := Aside0.mk h2; clear h1 h2))
  go_ret
  have k0 : KeptB (fun _ => False) wq (wq.alloc (.cells #[.int .i64 k, .int .i64 v, .pointer none, .pointer none] 97 (0, 0))) := (KeptB.refl _ _).alloc _
  obtain ⟨c1, c2⟩ := cs_new HQ.out HN.out HW.out (Nat.le_refl _) k0 H1.out H2.out H3.out H4.out
  exact ⟨rfl, wq, HR.out, wq.heap.size, Nat.le_refl _, c1, c2⟩
theorem CS.hits {ev : Value} {C m : Nat} {sz hits miss : Int} {l : List E} {W : World} (h : CS ev C sz m hits miss l W) (u : Int) : CS ev C sz m u miss l (W.setCell ⟨C, 5, none⟩ (.int .i64 u)) :=
  ⟨⟨(set_blk _ _ _ _ _ _ h.dl.hd).trans rfl, seg_frame _ _ _ h.dl.sg (fun y hy => by
    obtain ⟨p', n', hb⟩ := seg_mem _ _ _ h.dl.sg y hy
    exact set_far _ _ _ _ _ (typ_ne hb h.dl.hd (by decide))), h.dl.nd⟩, imapN_setCell h.mp _ (fun e => h.mne.1 e.symm) _, h.nk, h.kr⟩
theorem CS.miss {ev : Value} {C m : Nat} {sz hits miss : Int} {l : List E} {W : World} (h : CS ev C sz m hits miss l W) (u : Int) : CS ev C sz m hits u l (W.setCell ⟨C, 6, none⟩ (.int .i64 u)) :=
  ⟨⟨(set_blk _ _ _ _ _ _ h.dl.hd).trans rfl, seg_frame _ _ _ h.dl.sg (fun y hy => by
    obtain ⟨p', n', hb⟩ := seg_mem _ _ _ h.dl.sg y hy
    exact set_far _ _ _ _ _ (typ_ne hb h.dl.hd (by decide))), h.dl.nd⟩, imapN_setCell h.mp _ (fun e => h.mne.1 e.symm) _, h.nk, h.kr⟩
set_option maxHeartbeats 1000000 in
theorem get_miss {ev : Value} {C m : Nat} {sz hits miss : Int} {l : List E} {k : Int} {w : World} (h : CS ev C sz m hits miss l w) (hk : ∀ x ∈ l, x.2.1 ≠ k) (hw : (Lit.int .i64 k).wf = true) (hsz : 0 < sz) (hm : 0 ≤ miss) (hm2 : miss ≤ 1000000) :
    Calls Try.prog 30 #[.pointer (some ⟨C, 0, none⟩), .int .i64 k] w fun e w' => e = .returned (.tuple #[.int .i64 0, .bool false]) ∧ CS ev C sz m hits (miss + 1) l w' ∧ KeptB (own C m l) w w' := by
  have q0 : w.cell? ⟨C, 0, none⟩ = some (.int .i64 sz) := (blk_cell h.dl.hd 0).trans rfl
  have q1 : w.cell? ⟨C, 1, none⟩ = some (.map (some m)) := (blk_cell h.dl.hd 1).trans rfl
  have q6 : w.cell? ⟨C, 6, none⟩ = some (.int .i64 miss) := (blk_cell h.dl.hd 6).trans rfl
  have f6 : w.frozen? ⟨C, 6, none⟩ = false := blk_frozen h.dl.hd 6
  have qd : decide (sz ≤ 0) = false := decide_eq_false (by omega)
  have HL := Aside0.mk h
  have HK := Aside0.mk (lookE_none hk)
  have HW := Aside0.mk hw
  clear h hsz hk hw
  go_enter Try.func30, Try.ntmps30
  go_wp2_with (first
    | (at_lookup; refine wp_lookup rfl _ _ true rfl Try.underlying91 Try.underlying3 _ (zero92 _) rfl HL.out.mp.im k rfl HW.out ?_; rw [HK.out]; simp only [if_true, Option.getD_none, Option.isSome_none]))
  go_ret2
  exact ⟨rfl, CS.miss HL.out _, (KeptB.refl _ _).set (Or.inl (Or.inl rfl)) _⟩
set_option maxHeartbeats 1000000 in
theorem get_hit {ev : Value} {C m : Nat} {sz hits miss : Int} {A B : List E} {g : Nat} {k v : Int} {w : World} (h : CS ev C sz m hits miss (A ++ (g, k, v) :: B) w) (hsz : 0 < sz) (hm : 0 ≤ hits) (hm2 : hits ≤ 1000000) :
    Calls Try.prog 30 #[.pointer (some ⟨C, 0, none⟩), .int .i64 k] w fun e w' => e = .returned (.tuple #[.int .i64 v, .bool true]) ∧ CS ev C sz m (hits + 1) miss ((g, k, v) :: (A ++ B)) w' ∧ KeptB (own C m (A ++ (g, k, v) :: B)) w w' := by
  have q0 : w.cell? ⟨C, 0, none⟩ = some (.int .i64 sz) := (blk_cell h.dl.hd 0).trans rfl
  have q1 : w.cell? ⟨C, 1, none⟩ = some (.map (some m)) := (blk_cell h.dl.hd 1).trans rfl
  have q5 : w.cell? ⟨C, 5, none⟩ = some (.int .i64 hits) := (blk_cell h.dl.hd 5).trans rfl
  have f5 : w.frozen? ⟨C, 5, none⟩ = false := blk_frozen h.dl.hd 5
  have qd : decide (sz ≤ 0) = false := decide_eq_false (by omega)
  have HL := Aside0.mk h
  have HK := Aside0.mk (lookE_at h.nk)
  have HW := Aside0.mk (h.kr (g, k, v) (by simp))
  clear h hsz
  go_enter Try.func30, Try.ntmps30
  go_wp2_with (first
    | (at_lookup; refine wp_lookup rfl _ _ true rfl Try.underlying91 Try.underlying3 _ (zero92 _) rfl HL.out.mp.im k rfl HW.out ?_; rw [HK.out]; simp only [if_true, Option.getD_some, Option.isSome_some])
    | (go_at_call 50; refine (move_c (CS.hits HL.out (hits + 1))).mono ?_; rintro e w1 ⟨u, rfl, h1, h2⟩; have p1 : w1.cell? ⟨g, 1, none⟩ = some (.int .i64 v) := (blk_cell h1.dl.sg.1 1).trans rfl; have H1 := Aside0.mk h1; have H2 := Aside0.mk h2; clear h1 h2))
  go_ret2
  exact ⟨rfl, H1.out, ((KeptB.refl _ _).set (Or.inl (Or.inl rfl)) _).trans H2.out (fun _ _ h => h)⟩
end Go.Proofs.Ytphnnbbgcnilgaa.CacU
