/-
  Proved: GetOrCompute of a cache with the script's callback and the script's function. Conditions: the cache's state; nothing is gone yet.
-/
import Derived.Test.YtphnnbbgcnilgaaCacJ
namespace Go.Proofs.Ytphnnbbgcnilgaa.CacK
open Go Go.RowKit Go.Proofs.YtphnnbbgcnilgaaW.PrintWords Go.Proofs.Ytphnnbbgcnilgaa.Common Go.Proofs.Ytphnnbbgcnilgaa.IMapN Go.Proofs.Ytphnnbbgcnilgaa.CacA Go.Proofs.Ytphnnbbgcnilgaa.CacB Go.Proofs.Ytphnnbbgcnilgaa.CacS Go.Proofs.Ytphnnbbgcnilgaa.CacT Go.Proofs.Ytphnnbbgcnilgaa.CacU Go.Proofs.Ytphnnbbgcnilgaa.CacV Go.Proofs.Ytphnnbbgcnilgaa.CacW Go.Proofs.Ytphnnbbgcnilgaa.CacG Go.Proofs.Ytphnnbbgcnilgaa.CacH
set_option linter.unusedVariables false
set_option linter.unusedSimpArgs false
set_option maxRecDepth 1000000
theorem comp_c {go gx : Nat} {W : World} {d k u : Int} {a0 a1 a2 a3 a4 a5 : Value} (ho : W.heap[go]? = some (.cells #[a0, a1, a2, a3, a4, a5] 42 (0, 0))) (hx : W.heap[gx]? = some (.cells #[.int .i64 d, .int .i64 k, .int .i64 u] 33 (0, 0))) :
    Calls Try.prog 32 #[.pointer (some ⟨go, 0, none⟩), .pointer (some ⟨gx, 0, none⟩)] W fun e w' => e = .returned (.int .i64 u) ∧ w' = W.setCell ⟨go, 4, none⟩ (.bool true) := by
  have c4 : W.cell? ⟨go, 4, none⟩ = some a4 := (blk_cell ho 4).trans rfl
  have f4 := blk_frozen ho 4
  have x2 : (W.setCell ⟨go, 4, none⟩ (.bool true)).cell? ⟨gx, 2, none⟩ = some (.int .i64 u) := (blk_cell ((set_far _ _ _ _ _ (typ_ne hx ho (by decide))).trans hx) 2).trans rfl
  clear ho hx
  go_enter Try.func32, Try.ntmps32
  go_wp2
  go_ret
  exact ⟨rfl, rfl⟩
/-- the script's function -/
def clF (go gx : Nat) : Value := .func (.func 32) #[] #[.pointer (some ⟨go, 0, none⟩), .pointer (some ⟨gx, 0, none⟩)]
set_option maxHeartbeats 1000000 in
theorem comp_hit {ev : Value} {C m go gx : Nat} {sz hits miss : Int} {A B : List E} {g : Nat} {k v : Int} {w : World} (h : CS ev C sz m hits miss (A ++ (g, k, v) :: B) w) (hsz : 0 < sz) (hm : 0 ≤ hits) (hm2 : hits ≤ 1000000) :
    Calls Try.prog 31 #[.pointer (some ⟨C, 0, none⟩), .int .i64 k, clF go gx] w fun e w' => e = .returned (.int .i64 v) ∧ CS ev C sz m (hits + 1) miss ((g, k, v) :: (A ++ B)) w' ∧ KeptB (own C m (A ++ (g, k, v) :: B)) w w' := by
  have q0 : w.cell? ⟨C, 0, none⟩ = some (.int .i64 sz) := (blk_cell h.dl.hd 0).trans rfl
  have q1 : w.cell? ⟨C, 1, none⟩ = some (.map (some m)) := (blk_cell h.dl.hd 1).trans rfl
  have qd : decide (sz ≤ 0) = false := decide_eq_false (by omega)
  have HL := Aside0.mk h
  have HK := Aside0.mk (lookE_at h.nk)
  have HW := Aside0.mk (h.kr (g, k, v) (by simp))
  clear h hsz
  unfold clF
  go_enter Try.func31, Try.ntmps31
  go_wp2_with (first
    | (at_lookup; refine wp_lookup rfl _ _ true rfl Try.underlying91 Try.underlying3 _ (zero92 _) rfl HL.out.mp.im k rfl HW.out ?_; rw [HK.out]; simp only [if_true, Option.getD_some, Option.isSome_some])
    | (go_at_call 50; refine (move_c HL.out).mono ?_; rintro e w1 ⟨u, rfl, h1, h2⟩; have p1 : (w1.setCell ⟨C, 5, none⟩ (.int .i64 (hits + 1))).cell? ⟨g, 1, none⟩ = some (.int .i64 v) := (blk_cell (CS.hits h1 (hits + 1)).dl.sg.1 1).trans rfl; have p5 : w1.cell? ⟨C, 5, none⟩ = some (.int .i64 hits) := (blk_cell h1.dl.hd 5).trans rfl; have f5 := blk_frozen h1.dl.hd 5; have H1 := Aside0.mk h1; have H2 := Aside0.mk h2; clear h1 h2))
  go_ret
  exact ⟨rfl, CS.hits H1.out _, H2.out.set (Or.inl (Or.inl rfl)) _⟩
/-- behind the function's call -/
structure MS (C : Nat) (n : Int) (m b8 B : Nat) (hits miss : Int) (l : List E) (W : World) : Prop where
  cs : CS (evF b8) C n m hits miss l W
  gs : GS b8 B nilS [] W
theorem MS.of {C m b8 B go : Nat} {n hits miss : Int} {l : List E} {w : World} {oc : Array Value} (h : CS (evF b8) C n m hits miss l w) (hG : GS b8 B nilS [] w) (ho : w.heap[go]? = some (.cells oc 42 (0, 0))) : MS C n m b8 B hits (miss + 1) l ((w.setCell ⟨C, 6, none⟩ (.int .i64 (miss + 1))).setCell ⟨go, 4, none⟩ (.bool true)) := by
  have hg : ∀ b, own C m l b → b ≠ go := fun b hb e => own_typ h ho (by decide) (by decide) (by rw [← e]; exact hb)
  have hbC : b8 ≠ C := typ_ne hG.hb h.dl.hd (by decide)
  have hbg : b8 ≠ go := typ_ne hG.hb ho (by decide)
  refine ⟨CS.frame (CS.miss h (miss + 1)) (fun b hb => set_far _ _ _ _ _ (hg b hb)), ⟨?_, Kd.R_nil _ _ _ _ _, ?_⟩⟩
  · rw [set_far _ _ _ _ _ hbg, set_far _ _ _ _ _ hbC]; exact hG.hb
  · rw [World.size_setCell, World.size_setCell]; exact hG.le
set_option maxHeartbeats 2000000 in
theorem comp_miss {C m b8 B go gx : Nat} {n hits miss : Int} {l : List E} {k d k0 u : Int} {a0 a1 a2 a3 a4 a5 : Value} {w : World} (h : CS (evF b8) C n m hits miss l w) (hG : GS b8 B nilS [] w)
    (ho : w.heap[go]? = some (.cells #[a0, a1, a2, a3, a4, a5] 42 (0, 0))) (hx : w.heap[gx]? = some (.cells #[.int .i64 d, .int .i64 k0, .int .i64 u] 33 (0, 0)))
    (hk : ∀ x ∈ l, x.2.1 ≠ k) (hw : (Lit.int .i64 k).wf = true) (hsz : 0 < n) (hl : (l.length : Int) < n) (hm : 0 ≤ miss) (hm2 : miss ≤ 1000000) :
    Calls Try.prog 31 #[.pointer (some ⟨C, 0, none⟩), .int .i64 k, clF go gx] w fun e w' => e = .returned (.int .i64 u) ∧ Post C n m b8 B l ((w.setCell ⟨C, 6, none⟩ (.int .i64 (miss + 1))).setCell ⟨go, 4, none⟩ (.bool true)) ⟨(k, u) :: kvs l, hits, miss + 1⟩ [] w' := by
  have q0 : w.cell? ⟨C, 0, none⟩ = some (.int .i64 n) := (blk_cell h.dl.hd 0).trans rfl
  have q1 : w.cell? ⟨C, 1, none⟩ = some (.map (some m)) := (blk_cell h.dl.hd 1).trans rfl
  have q6 : w.cell? ⟨C, 6, none⟩ = some (.int .i64 miss) := (blk_cell h.dl.hd 6).trans rfl
  have f6 := blk_frozen h.dl.hd 6
  have qd : decide (n ≤ 0) = false := decide_eq_false (by omega)
  have qe : decide ((l.length : Int) ≥ n) = false := decide_eq_false (by omega)
  have HMS := Aside0.mk (MS.of h hG ho)
  have HGO : Aside0 ((w.setCell ⟨C, 6, none⟩ (.int .i64 (miss + 1))).heap[go]? = some (.cells #[a0, a1, a2, a3, a4, a5] 42 (0, 0))) := ⟨(set_far _ _ _ _ _ (typ_ne ho h.dl.hd (by decide))).trans ho⟩
  have HGX : Aside0 ((w.setCell ⟨C, 6, none⟩ (.int .i64 (miss + 1))).heap[gx]? = some (.cells #[.int .i64 d, .int .i64 k0, .int .i64 u] 33 (0, 0))) := ⟨(set_far _ _ _ _ _ (typ_ne hx h.dl.hd (by decide))).trans hx⟩
  have HL := Aside0.mk h
  have HK := Aside0.mk (lookE_none hk)
  have HN := Aside0.mk hk
  have HW := Aside0.mk hw
  clear h hsz hl hk hw hG ho hx
  unfold clF
  go_enter Try.func31, Try.ntmps31
  go_wp2_with (first
    | (at_lookup; refine wp_lookup (w := w) rfl _ _ true rfl Try.underlying91 Try.underlying3 _ (zero92 _) rfl HL.out.mp.im k rfl HW.out ?_; rw [HK.out]; simp only [if_true, Option.getD_none, Option.isSome_none])
    | (go_at_call 32; refine (comp_c HGO.out HGX.out).mono ?_; rintro e W1 ⟨rfl, hW1⟩; have HM := HMS.out; rw [← hW1] at HM; have HM1 := Aside0.mk HM; have r0 : W1.cell? ⟨C, 0, none⟩ = some (.int .i64 n) := (blk_cell HM.cs.dl.hd 0).trans rfl; have r1 : W1.cell? ⟨C, 1, none⟩ = some (.map (some m)) := (blk_cell HM.cs.dl.hd 1).trans rfl; have HW1 := Aside0.mk hW1; clear HM hW1)
    | (at_lookup; refine wp_lookup (w := W1) rfl _ _ true rfl Try.underlying91 Try.underlying3 _ (zero92 _) rfl HM1.out.cs.mp.im k rfl HW.out ?_; rw [HK.out]; simp only [if_true, Option.getD_none, Option.isSome_none]))
  have hlen : ∀ q, (Builtin.len_ #[91] 3 #[.map (some m)]).run Try.prog (W1.drewN q) = .ok (.int .i64 (l.length : Int)) (W1.drewN q) := fun q => imapN_len (imapN_of_heap (w' := W1.drewN q) HM1.out.cs.mp rfl) #[91] Try.underlying91 rfl 3
  go_quiet (fail)
  obtain ⟨wq, hwq⟩ : ∃ wq, wq = W1.drewN nq := ⟨_, rfl⟩
  rw [← hwq]
  have HQ : Aside0 (CS (evF b8) C n m hits (miss + 1) l wq) := ⟨CS.frame HM1.out.cs (fun b _ => by rw [hwq]; rfl)⟩
  have HGQ : Aside0 (GS b8 B nilS [] wq) := ⟨by rw [hwq]; exact ⟨HM1.out.gs.hb, Kd.R_drewN HM1.out.gs.row nq, HM1.out.gs.le⟩⟩
  have HP : Aside0 (KeptB (own C m l) W1 wq) := ⟨by rw [hwq]; exact ⟨rfl, rfl, rfl, Nat.le_refl _, fun _ _ _ => rfl⟩⟩
  have HB := Aside0.mk (dl_box (k := k) (v := u) HQ.out.dl)
  clear hwq hlen
  go_wp2_with (first
    | (go_at_call 52; refine (front_c HB.out.1 HB.out.2.1 HB.out.2.2).mono ?_; rintro e w2 ⟨u2, rfl, h1, h2⟩; have p1 : w2.cell? ⟨C, 1, none⟩ = some (.map (some m)) := (blk_cell h1.hd 1).trans rfl; have H1 := Aside0.mk h1; have H2 := Aside0.mk h2; clear h1 h2)
    | (at_mapUpdate; refine wp_storeN rfl _ _ _ rfl Try.underlying91 Try.underlying3 rfl (imapN_away (imapN_alloc HQ.out.mp _) H2.out HQ.out.mne.1 (mne_new HQ.out)) k rfl HW.out HK.out ?_; intro w3 h1 h2; have H3 := Aside0.mk h1; have H4 := Aside0.mk h2; clear h1 h2))
  go_ret
  have k0 : KeptB (fun _ => False) wq (wq.alloc (.cells #[.int .i64 k, .int .i64 u, .pointer none, .pointer none] 97 (0, 0))) := (KeptB.refl _ _).alloc _
  obtain ⟨c1, c2⟩ := cs_new HQ.out HN.out HW.out (Nat.le_refl _) k0 H1.out H2.out H3.out H4.out
  refine ⟨rfl, ?_⟩
  rw [← HW1.out]
  exact post_own HM1.out.cs HM1.out.gs c1 rfl (HP.out.trans c2 (fun _ _ h => h)) (own_put (fun x hx => ⟨x, hx, rfl⟩) (Or.inr HP.out.size))
set_option maxHeartbeats 2000000 in
theorem comp_full {C m b8 B go gx g0 : Nat} {n hits miss : Int} {A : List E} {k d k0 u kl vl : Int} {a0 a1 a2 a3 a4 a5 : Value} {w : World} (h : CS (evF b8) C n m hits miss (A ++ [(g0, kl, vl)]) w) (hG : GS b8 B nilS [] w)
    (ho : w.heap[go]? = some (.cells #[a0, a1, a2, a3, a4, a5] 42 (0, 0))) (hx : w.heap[gx]? = some (.cells #[.int .i64 d, .int .i64 k0, .int .i64 u] 33 (0, 0)))
    (hk : ∀ x ∈ A ++ [(g0, kl, vl)], x.2.1 ≠ k) (hw : (Lit.int .i64 k).wf = true) (hsz : 0 < n) (hl : n ≤ ((A ++ [(g0, kl, vl)]).length : Int)) (hm : 0 ≤ miss) (hm2 : miss ≤ 1000000) :
    Calls Try.prog 31 #[.pointer (some ⟨C, 0, none⟩), .int .i64 k, clF go gx] w fun e w' => e = .returned (.int .i64 u) ∧ Post C n m b8 B (A ++ [(g0, kl, vl)]) ((w.setCell ⟨C, 6, none⟩ (.int .i64 (miss + 1))).setCell ⟨go, 4, none⟩ (.bool true)) ⟨(k, u) :: kvs A, hits, miss + 1⟩ [(kl, vl)] w' := by
  have q0 : w.cell? ⟨C, 0, none⟩ = some (.int .i64 n) := (blk_cell h.dl.hd 0).trans rfl
  have q1 : w.cell? ⟨C, 1, none⟩ = some (.map (some m)) := (blk_cell h.dl.hd 1).trans rfl
  have q6 : w.cell? ⟨C, 6, none⟩ = some (.int .i64 miss) := (blk_cell h.dl.hd 6).trans rfl
  have f6 := blk_frozen h.dl.hd 6
  have qd : decide (n ≤ 0) = false := decide_eq_false (by omega)
  obtain ⟨L, hL⟩ : ∃ L : Nat, L = (A ++ [(g0, kl, vl)]).length := ⟨_, rfl⟩
  rw [← hL] at hl
  have qe : decide ((L : Int) ≥ n) = true := decide_eq_true (by omega)
  have HLL := Aside0.mk hL
  have HMS := Aside0.mk (MS.of h hG ho)
  have HGO : Aside0 ((w.setCell ⟨C, 6, none⟩ (.int .i64 (miss + 1))).heap[go]? = some (.cells #[a0, a1, a2, a3, a4, a5] 42 (0, 0))) := ⟨(set_far _ _ _ _ _ (typ_ne ho h.dl.hd (by decide))).trans ho⟩
  have HGX : Aside0 ((w.setCell ⟨C, 6, none⟩ (.int .i64 (miss + 1))).heap[gx]? = some (.cells #[.int .i64 d, .int .i64 k0, .int .i64 u] 33 (0, 0))) := ⟨(set_far _ _ _ _ _ (typ_ne hx h.dl.hd (by decide))).trans hx⟩
  have HL := Aside0.mk h
  have HK := Aside0.mk (lookE_none hk)
  have HN : Aside0 (∀ x ∈ A, x.2.1 ≠ k) := ⟨fun x hx => hk x (by simp [hx])⟩
  have HKA := Aside0.mk (lookE_none HN.out)
  have HW := Aside0.mk hw
  clear h hsz hl hk hw hG ho hx hL
  unfold clF
  go_enter Try.func31, Try.ntmps31
  go_wp2_with (first
    | (at_lookup; refine wp_lookup (w := w) rfl _ _ true rfl Try.underlying91 Try.underlying3 _ (zero92 _) rfl HL.out.mp.im k rfl HW.out ?_; rw [HK.out]; simp only [if_true, Option.getD_none, Option.isSome_none])
    | (go_at_call 32; refine (comp_c HGO.out HGX.out).mono ?_; rintro e W1 ⟨rfl, hW1⟩; have HM := HMS.out; rw [← hW1] at HM; have HM1 := Aside0.mk HM; have r0 : W1.cell? ⟨C, 0, none⟩ = some (.int .i64 n) := (blk_cell HM.cs.dl.hd 0).trans rfl; have r1 : W1.cell? ⟨C, 1, none⟩ = some (.map (some m)) := (blk_cell HM.cs.dl.hd 1).trans rfl; have HW1 := Aside0.mk hW1; clear HM hW1)
    | (at_lookup; refine wp_lookup (w := W1) rfl _ _ true rfl Try.underlying91 Try.underlying3 _ (zero92 _) rfl HM1.out.cs.mp.im k rfl HW.out ?_; rw [HK.out]; simp only [if_true, Option.getD_none, Option.isSome_none]))
  have hlen : ∀ q, (Builtin.len_ #[91] 3 #[.map (some m)]).run Try.prog (W1.drewN q) = .ok (.int .i64 (L : Int)) (W1.drewN q) := fun q => by rw [HLL.out]; exact imapN_len (imapN_of_heap (w' := W1.drewN q) HM1.out.cs.mp rfl) #[91] Try.underlying91 rfl 3
  go_quiet (fail)
  clear hlen
  go_wp2_with (first
    | (go_at_call 51; refine (oldest_e (w := W1.drewN nq) (G := []) (CS.frame HM1.out.cs (fun b _ => rfl)) ⟨HM1.out.gs.hb, Kd.R_drewN HM1.out.gs.row nq, HM1.out.gs.le⟩ (by simp)).mono ?_; rintro e wq ⟨u3, rfl, h1, h2, h3⟩; have HQ := Aside0.mk h1; have HQ2 := Aside0.mk h2; have HQ3 := Aside0.mk h3; have HB := Aside0.mk (dl_box (k := k) (v := u) h1.dl); clear h1 h2 h3)
    | (go_at_call 52; refine (front_c HB.out.1 HB.out.2.1 HB.out.2.2).mono ?_; rintro e w2 ⟨u2, rfl, h1, h2⟩; have p1 : w2.cell? ⟨C, 1, none⟩ = some (.map (some m)) := (blk_cell h1.hd 1).trans rfl; have H1 := Aside0.mk h1; have H2 := Aside0.mk h2; clear h1 h2)
    | (at_mapUpdate; refine wp_storeN rfl _ _ _ rfl Try.underlying91 Try.underlying3 rfl (imapN_away (imapN_alloc HQ.out.mp _) H2.out HQ.out.mne.1 (mne_new HQ.out)) k rfl HW.out HKA.out ?_; intro w3 h1 h2; have H3 := Aside0.mk h1; have H4 := Aside0.mk h2; clear h1 h2))
  go_ret
  have k0 : KeptB (fun _ => False) wq (wq.alloc (.cells #[.int .i64 k, .int .i64 u, .pointer none, .pointer none] 97 (0, 0))) := (KeptB.refl _ _).alloc _
  obtain ⟨c1, c2⟩ := cs_new HQ.out HN.out HW.out (Nat.le_refl _) k0 H1.out H2.out H3.out H4.out
  refine ⟨rfl, ?_⟩
  rw [← HW1.out]
  obtain ⟨gv', hg1, hg2⟩ := HQ2.out
  have hk1 : KeptB (ow C m (A ++ [(g0, kl, vl)]) b8 nilS) W1 wq := ⟨HQ3.out.os, HQ3.out.tape, HQ3.out.output, HQ3.out.size, HQ3.out.blk⟩
  refine ⟨⟨m, _, gv', c1, rfl, GS.keep HQ.out hg1 c2, ?_⟩, hk1.trans c2 (fun b hb ho => ?_)⟩
  · rintro b (hb | hb)
    · rcases own_put (C := C) (m := m) (l := A ++ [(g0, kl, vl)]) (W := W1) (A := A) (k := k) (v := u) (fun x hx => ⟨x, by simp [hx], rfl⟩) (Or.inr hk1.size) b hb with h | h
      · exact Or.inl (Or.inl h)
      · exact Or.inr h
    · rcases hg2 b hb with h | h
      · exact Or.inl (Or.inr h)
      · exact Or.inr h
  · rcases ho with ho | ho | ⟨x, hx, ho⟩
    · exact Or.inl (Or.inl ho)
    · exact Or.inl (Or.inr (Or.inl ho))
    · exact Or.inl (Or.inr (Or.inr ⟨x, by simp [hx], ho⟩))
end Go.Proofs.Ytphnnbbgcnilgaa.CacK
