/-
  Proved: Add, Get, Remove, RemoveOldest, Len, Cap of a cache with the script's callback. Conditions: the cache's state; nothing is gone yet.
-/
import Derived.Test.YtphnnbbgcnilgaaCacG
namespace Go.Proofs.Ytphnnbbgcnilgaa.CacH
open Go Go.RowKit Go.Proofs.YtphnnbbgcnilgaaW.PrintWords Go.Proofs.Ytphnnbbgcnilgaa.Common Go.Proofs.Ytphnnbbgcnilgaa.IMapN Go.Proofs.Ytphnnbbgcnilgaa.CacA Go.Proofs.Ytphnnbbgcnilgaa.CacS Go.Proofs.Ytphnnbbgcnilgaa.CacT Go.Proofs.Ytphnnbbgcnilgaa.CacU Go.Proofs.Ytphnnbbgcnilgaa.CacV Go.Proofs.Ytphnnbbgcnilgaa.CacW Go.Proofs.Ytphnnbbgcnilgaa.CacG
set_option linter.unusedVariables false
set_option linter.unusedSimpArgs false
set_option maxRecDepth 1000000
abbrev nilS : Value := .slice none 0 0
/-- what a call leaves -/
structure Post (C : Nat) (n : Int) (m b8 B : Nat) (l0 : List E) (W : World) (st' : St) (G' : List KV) (w' : World) : Prop where
  ex : ∃ m' l' gv', CS (evF b8) C n m' st'.hits st'.miss l' w' ∧ kvs l' = st'.l ∧ GS b8 B gv' G' w' ∧ ∀ b, ow C m' l' b8 gv' b → ow C m l0 b8 nilS b ∨ W.heap.size ≤ b
  kp : KeptB (ow C m l0 b8 nilS) W w'
theorem ow_of {C m : Nat} {l l' : List E} {b8 : Nat} {gv : Value} {W : World} (h : ∀ b, own C m l' b → own C m l b ∨ W.heap.size ≤ b) : ∀ b, ow C m l' b8 gv b → ow C m l b8 gv b ∨ W.heap.size ≤ b := by
  rintro b (hb | hb)
  · rcases h b hb with h | h
    · exact Or.inl (Or.inl h)
    · exact Or.inr h
  · exact Or.inl (Or.inr hb)
theorem KeptB.ow {C m : Nat} {l : List E} {b8 : Nat} {gv : Value} {W W1 : World} (h : KeptB (own C m l) W W1) : KeptB (CacG.ow C m l b8 gv) W W1 := ⟨h.os, h.tape, h.output, h.size, fun b hb hn => h.blk b hb (fun ho => hn (Or.inl ho))⟩
def addG (n : Int) (l : List KV) (k : Int) : List KV := if hasK l k = true then [] else if n ≤ (l.length : Int) then l.getLast?.toList else []
/-- a call that writes the cache's own blocks alone -/
theorem post_own {C m b8 B : Nat} {n hits miss : Int} {l l' : List E} {w w' : World} {st' : St} (h : CS (evF b8) C n m hits miss l w) (hG : GS b8 B nilS [] w) (h1 : CS (evF b8) C n m st'.hits st'.miss l' w') (h2 : kvs l' = st'.l) (k : KeptB (own C m l) w w') (hs : ∀ b, own C m l' b → own C m l b ∨ w.heap.size ≤ b) : Post C n m b8 B l w st' [] w' :=
  ⟨⟨m, l', nilS, h1, h2, GS.keep h hG k, ow_of hs⟩, KeptB.ow k⟩
theorem add_e {C m b8 B : Nat} {n hits miss : Int} {l : List E} {k v : Int} {w : World} (h : CS (evF b8) C n m hits miss l w) (hG : GS b8 B nilS [] w) (hw : (Lit.int .i64 k).wf = true) (hsz : 0 < n) :
    Calls Try.prog 29 #[.pointer (some ⟨C, 0, none⟩), .int .i64 k, .int .i64 v] w fun e w' => e = .returned (.bool (addF n (kvs l) k v).2) ∧ Post C n m b8 B l w ⟨(addF n (kvs l) k v).1, hits, miss⟩ (addG n (kvs l) k) w' := by
  unfold addF addG
  by_cases hk : hasK (kvs l) k = true
  · rw [if_pos hk, if_pos hk]
    obtain ⟨A, g, v0, Bb, rfl, hA⟩ := split_key hk
    refine (add_hit h hsz).mono ?_
    rintro e w' ⟨rfl, h1, h2⟩
    exact ⟨rfl, post_own h hG h1 (by dsimp only; rw [without_mid h.nk]; rfl) h2 (own_put mid_sub.1 (Or.inl mid_sub.2))⟩
  · rw [if_neg hk, if_neg hk]
    have hn := no_key hk
    by_cases hl : n ≤ (l.length : Int)
    · have hl2 : n ≤ ((kvs l).length : Int) := by simpa [kvs] using hl
      rw [if_pos hl2, if_pos hl2]
      rcases l.eq_nil_or_concat with rfl | ⟨A, ⟨g, k0, v0⟩, rfl⟩
      · simp at hl; omega
      · rw [List.concat_eq_append] at *
        have hgl : (kvs (A ++ [(g, k0, v0)])).getLast?.toList = [(k0, v0)] := by simp [kvs]
        rw [hgl]
        refine (add_full (A := A) (v := v) (Rel := fun w1 => (∃ gv', GS b8 B gv' [(k0, v0)] w1 ∧ ∀ b, gw b8 gv' b → gw b8 nilS b ∨ w.heap.size ≤ b) ∧ CS (evF b8) C n m hits miss A w1 ∧ KeptB (ow C m (A ++ [(g, k0, v0)]) b8 nilS) w w1) h ?_ hn (fun x hx => hn x (by simp [hx])) hw hsz hl).mono ?_
        · rintro W ⟨q, rfl⟩
          refine (oldest_e (w := w.drewN q) (G := []) (CS.frame h (fun b _ => rfl)) ⟨hG.hb, Kd.R_drewN hG.row q, hG.le⟩ (by simp)).mono ?_
          rintro e w1 ⟨u, rfl, h1, h2, h3⟩
          exact ⟨u, rfl, h1, h2, h1, ⟨h3.os, h3.tape, h3.output, h3.size, h3.blk⟩⟩
        · rintro e w' ⟨rfl, w1, ⟨⟨gv', hG1, hgw⟩, hc1, hk1⟩, g1, hg1, h2, h3⟩
          refine ⟨rfl, ⟨⟨m, _, gv', h2, by simp [kvs], GS.keep hc1 hG1 h3, ?_⟩, hk1.trans h3 (fun b hb ho => ?_)⟩⟩
          · rintro b (hb | hb)
            · rcases own_put (C := C) (m := m) (l := A ++ [(g, k0, v0)]) (W := w) (A := A) (k := k) (v := v) (fun x hx => ⟨x, by simp [hx], rfl⟩) (Or.inr (Nat.le_trans hk1.size hg1)) b hb with h | h
              · exact Or.inl (Or.inl h)
              · exact Or.inr h
            · rcases hgw b hb with h | h
              · exact Or.inl (Or.inr h)
              · exact Or.inr h
          · rcases ho with ho | ho | ⟨x, hx, ho⟩
            · exact Or.inl (Or.inl ho)
            · exact Or.inl (Or.inr (Or.inl ho))
            · exact Or.inl (Or.inr (Or.inr ⟨x, by simp [hx], ho⟩))
    · have hl2 : ¬ n ≤ ((kvs l).length : Int) := by simpa [kvs] using hl
      rw [if_neg hl2, if_neg hl2]
      refine (add_miss h hn hw hsz (by omega)).mono ?_
      rintro e w' ⟨rfl, g, hg, h1, h2⟩
      exact ⟨rfl, post_own h hG h1 rfl h2 (own_put (fun x hx => ⟨x, hx, rfl⟩) (Or.inr hg))⟩
theorem get_e {C m b8 B : Nat} {n hits miss : Int} {l : List E} {k : Int} {w : World} (h : CS (evF b8) C n m hits miss l w) (hG : GS b8 B nilS [] w) (hw : (Lit.int .i64 k).wf = true) (hsz : 0 < n) (h0 : 0 ≤ hits) (h1 : hits ≤ 1000000) (h2 : 0 ≤ miss) (h3 : miss ≤ 1000000) :
    Calls Try.prog 30 #[.pointer (some ⟨C, 0, none⟩), .int .i64 k] w fun e w' => e = .returned (.tuple #[.int .i64 (getF (kvs l) k).2.1, .bool (getF (kvs l) k).2.2]) ∧ Post C n m b8 B l w ⟨(getF (kvs l) k).1, if (getF (kvs l) k).2.2 = true then hits + 1 else hits, if (getF (kvs l) k).2.2 = true then miss else miss + 1⟩ [] w' := by
  refine (get_c h hw hsz h0 h1 h2 h3).mono ?_
  rintro e w' ⟨l', rfl, c1, c2, c3, c4⟩
  exact ⟨rfl, post_own h hG c1 c2 c3 c4⟩
theorem lookE_del {A B : List E} {g : Nat} {k v : Int} (h : (A ++ (g, k, v) :: B).Pairwise fun a b => a.2.1 ≠ b.2.1) : (fun n => if n = k then none else lookE (A ++ (g, k, v) :: B) n) = lookE (A ++ B) := by
  have hn := nk_mid h
  funext n
  rw [lookE_mid A B g k v (fun x hx => hn.1 x (by simp [hx]))]
  by_cases h : n = k
  · subst h; rw [if_pos rfl, lookE_none hn.1]
  · simp only [if_neg h]
set_option maxHeartbeats 1000000 in
theorem remove_hit {ev : Value} {C m : Nat} {sz hits miss : Int} {A B : List E} {g : Nat} {k v : Int} {w : World} (h : CS ev C sz m hits miss (A ++ (g, k, v) :: B) w) (hsz : 0 < sz) :
    Calls Try.prog 33 #[.pointer (some ⟨C, 0, none⟩), .int .i64 k] w fun e w' => e = .returned (.bool true) ∧ CS ev C sz m hits miss (A ++ B) w' ∧ KeptB (own C m (A ++ (g, k, v) :: B)) w w' := by
  have q0 : w.cell? ⟨C, 0, none⟩ = some (.int .i64 sz) := (blk_cell h.dl.hd 0).trans rfl
  have q1 : w.cell? ⟨C, 1, none⟩ = some (.map (some m)) := (blk_cell h.dl.hd 1).trans rfl
  have qd : decide (sz ≤ 0) = false := decide_eq_false (by omega)
  have HL := Aside0.mk h
  have HM := Aside0.mk h.mne
  have HK := Aside0.mk (lookE_at h.nk)
  have HW := Aside0.mk (h.kr (g, k, v) (by simp))
  clear h hsz
  go_enter Try.func33, Try.ntmps33
  go_wp2_with (first
    | (at_lookup; refine wp_lookup rfl _ _ true rfl Try.underlying91 Try.underlying3 _ (zero92 _) rfl HL.out.mp.im k rfl HW.out ?_; rw [HK.out]; simp only [if_true, Option.getD_some, Option.isSome_some])
    | (go_at_call 53; refine (remove_c A B HL.out.dl).mono ?_; rintro e w1 ⟨u, rfl, h1, h2, h3⟩; have H1 := Aside0.mk h1; have H3 := Aside0.mk h3; have p1 : w1.cell? ⟨C, 1, none⟩ = some (.map (some m)) := (blk_cell h1.hd 1).trans rfl; (obtain ⟨w3, hdel, d1, d2, d3⟩ := imapN_delete (P := Try.prog) (imapN_away HL.out.mp h3 HM.out.1 HM.out.2) Try.underlying91 Try.underlying3 k HW.out (by rw [HK.out]; rfl) #[91, 3] rfl 0); have D1 := Aside0.mk d1; have D2 := Aside0.mk d2; clear h1 h2 h3 d1 d2 d3))
  go_ret
  have hC : w3.heap[C]? = w1.heap[C]? := D2.out.block C (Array.getElem?_eq_some_iff.1 H1.out.hd).1 (fun e => HM.out.1 (by injection e with e; exact e.symm))
  have hE : ∀ x ∈ A ++ B, w3.heap[x.1]? = w1.heap[x.1]? := fun x hx => by
    obtain ⟨p', n', hb⟩ := seg_mem _ _ _ H1.out.sg x hx
    exact D2.out.block x.1 (Array.getElem?_eq_some_iff.1 hb).1 (fun e => HM.out.2 x (by rcases List.mem_append.1 hx with h | h <;> simp [h]) (by injection e))
  have hn := nk_mid HL.out.nk
  refine ⟨rfl, ⟨⟨hC.trans H1.out.hd, seg_frame _ _ _ H1.out.sg hE, H1.out.nd⟩, ?_, hn.2, fun x hx => HL.out.kr x (by rcases List.mem_append.1 hx with h | h <;> simp [h])⟩, (H3.out.kept (m := m)).grown D2.out (fun k e => Or.inl (by cases e; exact Or.inr (Or.inl rfl)))⟩
  have := D1.out
  rw [lookE_del HL.out.nk] at this
  have e : (A ++ (g, k, v) :: B).length - 1 = (A ++ B).length := by simp
  rwa [e] at this
set_option maxHeartbeats 1000000 in
theorem remove_miss {ev : Value} {C m : Nat} {sz hits miss : Int} {l : List E} {k : Int} {w : World} (h : CS ev C sz m hits miss l w) (hk : ∀ x ∈ l, x.2.1 ≠ k) (hw : (Lit.int .i64 k).wf = true) (hsz : 0 < sz) :
    Calls Try.prog 33 #[.pointer (some ⟨C, 0, none⟩), .int .i64 k] w fun e w' => e = .returned (.bool false) ∧ w' = w := by
  have q0 : w.cell? ⟨C, 0, none⟩ = some (.int .i64 sz) := (blk_cell h.dl.hd 0).trans rfl
  have q1 : w.cell? ⟨C, 1, none⟩ = some (.map (some m)) := (blk_cell h.dl.hd 1).trans rfl
  have qd : decide (sz ≤ 0) = false := decide_eq_false (by omega)
  have HL := Aside0.mk h
  have HK := Aside0.mk (lookE_none hk)
  have HW := Aside0.mk hw
  clear h hsz hk hw
  go_enter Try.func33, Try.ntmps33
  go_wp2_with (first
    | (at_lookup; refine wp_lookup rfl _ _ true rfl Try.underlying91 Try.underlying3 _ (zero92 _) rfl HL.out.mp.im k rfl HW.out ?_; rw [HK.out]; simp only [if_true, Option.getD_none, Option.isSome_none]))
  go_ret
  exact ⟨rfl, rfl⟩
theorem CS.refl_own {C m : Nat} {l : List E} {W : World} : ∀ b, own C m l b → own C m l b ∨ W.heap.size ≤ b := fun b h => Or.inl h
theorem remove_e {C m b8 B : Nat} {n hits miss : Int} {l : List E} {k : Int} {w : World} (h : CS (evF b8) C n m hits miss l w) (hG : GS b8 B nilS [] w) (hw : (Lit.int .i64 k).wf = true) (hsz : 0 < n) :
    Calls Try.prog 33 #[.pointer (some ⟨C, 0, none⟩), .int .i64 k] w fun e w' => e = .returned (.bool (hasK (kvs l) k)) ∧ Post C n m b8 B l w ⟨without (kvs l) k, hits, miss⟩ [] w' := by
  by_cases hk : hasK (kvs l) k = true
  · obtain ⟨A, g, v0, Bb, rfl, hA⟩ := split_key hk
    refine (remove_hit h hsz).mono ?_
    rintro e w' ⟨rfl, h1, h2⟩
    refine ⟨by rw [hk], post_own h hG h1 (by dsimp only; rw [without_mid h.nk]) h2 (fun b hb => Or.inl ?_)⟩
    rcases hb with hb | hb | ⟨x, hx, hb⟩
    · exact Or.inl hb
    · exact Or.inr (Or.inl hb)
    · obtain ⟨y, hy, e⟩ := (mid_sub (A := A) (B := Bb) (g := g) (k := k) (v := v0)).1 x hx
      exact Or.inr (Or.inr ⟨y, hy, e.trans hb⟩)
  · have hn := no_key hk
    refine (remove_miss h hn hw hsz).mono ?_
    rintro e w' ⟨rfl, rfl⟩
    refine ⟨by simp [hk], post_own h hG h ?_ (KeptB.refl _ _) (fun b hb => Or.inl hb)⟩
    exact (without_none (fun x hx => by
      obtain ⟨y, hy, rfl⟩ := List.mem_map.1 hx
      exact hn y hy)).symm
set_option maxHeartbeats 1000000 in
theorem rold_some {C m b8 B : Nat} {n hits miss : Int} {A : List E} {g : Nat} {k v : Int} {w : World} (h : CS (evF b8) C n m hits miss (A ++ [(g, k, v)]) w) (hG : GS b8 B nilS [] w) (hsz : 0 < n) :
    Calls Try.prog 34 #[.pointer (some ⟨C, 0, none⟩)] w fun e w' => e = .returned (.tuple #[.int .i64 k, .int .i64 v, .bool true]) ∧ Post C n m b8 B (A ++ [(g, k, v)]) w ⟨kvs A, hits, miss⟩ [(k, v)] w' := by
  have q0 : w.cell? ⟨C, 0, none⟩ = some (.int .i64 n) := (blk_cell h.dl.hd 0).trans rfl
  have q3 : w.cell? ⟨C, 3, none⟩ = some (.pointer (some ⟨g, 0, none⟩)) := by
    rw [blk_cell h.dl.hd 3, lastO_append _ _ _ _ none]; rfl
  have hs := (seg_append _ _ _ _).1 h.dl.sg
  have g0 : w.cell? ⟨g, 0, none⟩ = some (.int .i64 k) := (blk_cell hs.2.1 0).trans rfl
  have g1 : w.cell? ⟨g, 1, none⟩ = some (.int .i64 v) := (blk_cell hs.2.1 1).trans rfl
  have qd : decide (n ≤ 0) = false := decide_eq_false (by omega)
  have HL := Aside0.mk h
  have HG := Aside0.mk hG
  clear h hG hs hsz
  go_enter Try.func34, Try.ntmps34
  go_wp2_with (go_at_call 51; refine (oldest_e HL.out HG.out (by simp)).mono ?_; rintro e w1 ⟨u, rfl, h1, h2, h3⟩; have H1 := Aside0.mk h1; have H2 := Aside0.mk h2; have H3 := Aside0.mk h3; clear h1 h2 h3)
  refine bodyPost_ret (results_tmp3 rfl _ _ _) rfl ?_
  obtain ⟨gv', hg1, hg2⟩ := H2.out
  refine ⟨rfl, ⟨⟨m, A, gv', H1.out, rfl, hg1, ?_⟩, H3.out⟩⟩
  rintro b (hb | hb)
  · rcases hb with hb | hb | ⟨x, hx, hb⟩
    · exact Or.inl (Or.inl (Or.inl hb))
    · exact Or.inl (Or.inl (Or.inr (Or.inl hb)))
    · exact Or.inl (Or.inl (Or.inr (Or.inr ⟨x, by simp [hx], hb⟩)))
  · rcases hg2 b hb with h | h
    · exact Or.inl (Or.inr h)
    · exact Or.inr h
set_option maxHeartbeats 1000000 in
theorem rold_none {C m b8 B : Nat} {n hits miss : Int} {w : World} (h : CS (evF b8) C n m hits miss [] w) (hsz : 0 < n) :
    Calls Try.prog 34 #[.pointer (some ⟨C, 0, none⟩)] w fun e w' => e = .returned (.tuple #[.int .i64 0, .int .i64 0, .bool false]) ∧ w' = w := by
  have q0 : w.cell? ⟨C, 0, none⟩ = some (.int .i64 n) := (blk_cell h.dl.hd 0).trans rfl
  have q3 : w.cell? ⟨C, 3, none⟩ = some (.pointer none) := (blk_cell h.dl.hd 3).trans rfl
  have qd : decide (n ≤ 0) = false := decide_eq_false (by omega)
  clear h hsz
  go_enter Try.func34, Try.ntmps34
  go_wp2
  refine bodyPost_ret (results_tmp3 rfl _ _ _) rfl ?_
  exact ⟨rfl, rfl⟩
set_option maxHeartbeats 1000000 in
theorem len_e {ev : Value} {C m : Nat} {n hits miss : Int} {l : List E} {w : World} (h : CS ev C n m hits miss l w) (hsz : 0 < n) :
    Calls Try.prog 36 #[.pointer (some ⟨C, 0, none⟩)] w fun e w' => e = .returned (.int .i64 ((kvs l).length : Int)) ∧ w' = w := by
  have q0 : w.cell? ⟨C, 0, none⟩ = some (.int .i64 n) := (blk_cell h.dl.hd 0).trans rfl
  have q1 : w.cell? ⟨C, 1, none⟩ = some (.map (some m)) := (blk_cell h.dl.hd 1).trans rfl
  have qd : decide (n ≤ 0) = false := decide_eq_false (by omega)
  have hlen := imapN_len h.mp #[91] Try.underlying91 rfl 3
  have HE : Aside0 ((kvs l).length = l.length) := ⟨by simp [kvs]⟩
  clear h hsz
  go_enter Try.func36, Try.ntmps36
  go_wp2
  go_ret
  exact ⟨by rw [HE.out]; rfl, rfl⟩
set_option maxHeartbeats 1000000 in
theorem cap_e {ev : Value} {C m : Nat} {n hits miss : Int} {l : List E} {w : World} (h : CS ev C n m hits miss l w) :
    Calls Try.prog 37 #[.pointer (some ⟨C, 0, none⟩)] w fun e w' => e = .returned (.int .i64 n) ∧ w' = w := by
  have q0 : w.cell? ⟨C, 0, none⟩ = some (.int .i64 n) := (blk_cell h.dl.hd 0).trans rfl
  clear h
  go_enter Try.func37, Try.ntmps37
  go_wp2
  go_ret
  exact ⟨rfl, rfl⟩
end Go.Proofs.Ytphnnbbgcnilgaa.CacH
