/-
  Proved: the plain functions of a whole script with a callback; the states of a round. Conditions: each theorem's own.
-/
import Derived.Test.YtphnnbbgcnilgaaCacK
import Derived.Test.YtphnnbbgcnilgaaCacF
namespace Go.Proofs.Ytphnnbbgcnilgaa.CacY
open Go Go.RowKit Go.Proofs.YtphnnbbgcnilgaaW.PrintWords Go.Proofs.Ytphnnbbgcnilgaa.Common Go.Proofs.Ytphnnbbgcnilgaa.IMapN Go.Proofs.Ytphnnbbgcnilgaa.CacA Go.Proofs.Ytphnnbbgcnilgaa.CacS Go.Proofs.Ytphnnbbgcnilgaa.CacT Go.Proofs.Ytphnnbbgcnilgaa.CacU Go.Proofs.Ytphnnbbgcnilgaa.CacV Go.Proofs.Ytphnnbbgcnilgaa.CacW Go.Proofs.Ytphnnbbgcnilgaa.CacG Go.Proofs.Ytphnnbbgcnilgaa.CacH Go.Proofs.Ytphnnbbgcnilgaa.CacJ Go.Proofs.Ytphnnbbgcnilgaa.CacK Go.Proofs.Ytphnnbbgcnilgaa.CacF Go.Proofs.Ytphnnbbgcnilgaa.GFnCachePurge
set_option linter.unusedVariables false
set_option linter.unusedSimpArgs false
set_option maxRecDepth 1000000
theorem compute_hit {C m b8 B go gx : Nat} {n hits miss : Int} {l : List E} {k : Int} {w : World} (h : CS (evF b8) C n m hits miss l w) (hG : GS b8 B nilS [] w) (hk : hasK (kvs l) k = true) (hsz : 0 < n) (h0 : 0 ≤ hits) (h1 : hits ≤ 1000000) :
    Calls Try.prog 31 #[.pointer (some ⟨C, 0, none⟩), .int .i64 k, clF go gx] w fun e w' => e = .returned (.int .i64 (getF (kvs l) k).2.1) ∧ Post C n m b8 B l w ⟨(getF (kvs l) k).1, hits + 1, miss⟩ [] w' := by
  obtain ⟨A, g, v0, Bb, rfl, hA⟩ := split_key hk
  have e : getF (kvs (A ++ (g, k, v0) :: Bb)) k = ((k, v0) :: kvs (A ++ Bb), v0, true) := by
    unfold getF; rw [find_mid hA]; dsimp only; rw [without_mid h.nk]
  rw [e]
  refine (comp_hit h hsz h0 h1).mono ?_
  rintro e w' ⟨rfl, h1, h2⟩
  exact ⟨rfl, post_own h hG h1 rfl h2 (own_put mid_sub.1 (Or.inl mid_sub.2))⟩
theorem compute_miss {C m b8 B go gx : Nat} {n hits miss : Int} {l : List E} {k d k0 u : Int} {a0 a1 a2 a3 a4 a5 : Value} {w : World} (h : CS (evF b8) C n m hits miss l w) (hG : GS b8 B nilS [] w)
    (ho : w.heap[go]? = some (.cells #[a0, a1, a2, a3, a4, a5] 42 (0, 0))) (hx : w.heap[gx]? = some (.cells #[.int .i64 d, .int .i64 k0, .int .i64 u] 33 (0, 0)))
    (hk : ¬ hasK (kvs l) k = true) (hw : (Lit.int .i64 k).wf = true) (hsz : 0 < n) (hm : 0 ≤ miss) (hm2 : miss ≤ 1000000) :
    Calls Try.prog 31 #[.pointer (some ⟨C, 0, none⟩), .int .i64 k, clF go gx] w fun e w' => e = .returned (.int .i64 u) ∧ Post C n m b8 B l ((w.setCell ⟨C, 6, none⟩ (.int .i64 (miss + 1))).setCell ⟨go, 4, none⟩ (.bool true)) ⟨(addF n (kvs l) k u).1, hits, miss + 1⟩ (addG n (kvs l) k) w' := by
  have hn := no_key hk
  unfold addF addG
  rw [if_neg hk, if_neg hk]
  by_cases hl : n ≤ (l.length : Int)
  · have hl2 : n ≤ ((kvs l).length : Int) := by simpa [kvs] using hl
    rw [if_pos hl2, if_pos hl2]
    rcases l.eq_nil_or_concat with rfl | ⟨A, ⟨g, k1, v1⟩, rfl⟩
    · simp at hl; omega
    · rw [List.concat_eq_append] at *
      have hgl : (kvs (A ++ [(g, k1, v1)])).getLast?.toList = [(k1, v1)] := by simp [kvs]
      have hdl : (kvs (A ++ [(g, k1, v1)])).dropLast = kvs A := by simp [kvs]
      rw [hgl, hdl]
      exact comp_full h hG ho hx hn hw hsz hl hm hm2
  · have hl2 : ¬ n ≤ ((kvs l).length : Int) := by simpa [kvs] using hl
    rw [if_neg hl2, if_neg hl2]
    exact comp_miss h hG ho hx hn hw hsz (by omega) hm hm2
def lastK (l : List KV) : Int := (l.getLast?.map (·.1)).getD 0
def lastV (l : List KV) : Int := (l.getLast?.map (·.2)).getD 0
def lastB (l : List KV) : Bool := l.getLast?.isSome
def lastG (l : List KV) : List KV := l.getLast?.toList
theorem rold_e {C m b8 B : Nat} {n hits miss : Int} {l : List E} {w : World} (h : CS (evF b8) C n m hits miss l w) (hG : GS b8 B nilS [] w) (hsz : 0 < n) :
    Calls Try.prog 34 #[.pointer (some ⟨C, 0, none⟩)] w fun e w' => e = .returned (.tuple #[.int .i64 (lastK (kvs l)), .int .i64 (lastV (kvs l)), .bool (lastB (kvs l))]) ∧ Post C n m b8 B l w ⟨(kvs l).dropLast, hits, miss⟩ (lastG (kvs l)) w' := by
  unfold lastK lastV lastB lastG
  rcases l.eq_nil_or_concat with rfl | ⟨A, ⟨g, k1, v1⟩, rfl⟩
  · refine (rold_none (B := B) h hsz).mono ?_
    rintro e w' ⟨rfl, rfl⟩
    exact ⟨rfl, post_own h hG h rfl (KeptB.refl _ _) (fun b hb => Or.inl hb)⟩
  · rw [List.concat_eq_append] at *
    have hgl : (kvs (A ++ [(g, k1, v1)])).getLast? = some (k1, v1) := by simp [kvs]
    have hdl : (kvs (A ++ [(g, k1, v1)])).dropLast = kvs A := by simp [kvs]
    rw [hgl, hdl]
    refine (rold_some h hG hsz).mono ?_
    rintro e w' ⟨rfl, hp⟩
    exact ⟨rfl, hp⟩
theorem same_e {C m b8 B : Nat} {n hits miss : Int} {l : List E} {w : World} (h : CS (evF b8) C n m hits miss l w) (hG : GS b8 B nilS [] w) : Post C n m b8 B l w ⟨kvs l, hits, miss⟩ [] w := post_own h hG h rfl (KeptB.refl _ _) (fun b hb => Or.inl hb)
/-! ### the plain functions -/
def stepG (n : Int) (s : St) (o : S33) : St × S42 :=
  if o.f0 = 0 then (⟨(addF n s.l o.f1 o.f2).1, s.hits, s.miss⟩, ⟨(addF n s.l o.f1 o.f2).2, 0, 0, 0, false, addG n s.l o.f1⟩)
  else if o.f0 = 1 then (⟨(getF s.l o.f1).1, if (getF s.l o.f1).2.2 = true then s.hits + 1 else s.hits, if (getF s.l o.f1).2.2 = true then s.miss else s.miss + 1⟩, ⟨(getF s.l o.f1).2.2, 0, (getF s.l o.f1).2.1, 0, false, []⟩)
  else if o.f0 = 2 then (if hasK s.l o.f1 = true then (⟨(getF s.l o.f1).1, s.hits + 1, s.miss⟩, ⟨false, 0, (getF s.l o.f1).2.1, 0, false, []⟩) else (⟨(addF n s.l o.f1 o.f2).1, s.hits, s.miss + 1⟩, ⟨false, 0, o.f2, 0, true, addG n s.l o.f1⟩))
  else if o.f0 = 3 then (⟨without s.l o.f1, s.hits, s.miss⟩, ⟨hasK s.l o.f1, 0, 0, 0, false, []⟩)
  else if o.f0 = 4 then (⟨s.l.dropLast, s.hits, s.miss⟩, ⟨lastB s.l, lastK s.l, lastV s.l, 0, false, lastG s.l⟩)
  else if o.f0 = 6 then (⟨s.l, s.hits, s.miss⟩, ⟨false, 0, (s.l.length : Int), 0, false, []⟩)
  else if o.f0 = 7 then (⟨s.l, s.hits, s.miss⟩, ⟨false, 0, n, 0, false, []⟩)
  else (⟨s.l, s.hits, s.miss⟩, ⟨false, 0, 0, rateF s.hits s.miss, false, []⟩)
def stepR (n : Int) (s : St) (o : S33) (s' : St) (x : S42) : Prop :=
  (o.f0 = 5 → s' = ⟨[], 0, 0⟩ ∧ ∃ G, G.Perm s.l ∧ x = ⟨false, 0, 0, 0, false, G⟩) ∧ (o.f0 ≠ 5 → (s', x) = stepG n s o)
def RR (n : Int) : List S33 → St → List S42 → St → Prop
  | [], s, outs, s' => outs = [] ∧ s' = s
  | o :: t, s, outs, s' => ∃ s1 x rest, stepR n s o s1 x ∧ outs = x :: rest ∧ RR n t s1 rest s'
theorem RR_append (n : Int) : ∀ (a b : List S33) (s : St) (outs : List S42) (s' : St), RR n (a ++ b) s outs s' ↔ ∃ o1 o2 s1, outs = o1 ++ o2 ∧ RR n a s o1 s1 ∧ RR n b s1 o2 s'
  | [], b, s, outs, s' => by
    constructor
    · intro h; exact ⟨[], outs, s, rfl, ⟨rfl, rfl⟩, h⟩
    · rintro ⟨o1, o2, s1, rfl, ⟨rfl, rfl⟩, h⟩; exact h
  | o :: t, b, s, outs, s' => by
    rw [List.cons_append]
    constructor
    · rintro ⟨s1, x, rest, h1, rfl, h2⟩
      obtain ⟨o1, o2, s2, rfl, h3, h4⟩ := (RR_append n t b s1 rest s').1 h2
      exact ⟨x :: o1, o2, s2, rfl, ⟨s1, x, o1, h1, rfl, h3⟩, h4⟩
    · rintro ⟨o1, o2, s2, rfl, ⟨s1, x, rest, h1, rfl, h3⟩, h4⟩
      exact ⟨s1, x, rest ++ o2, h1, rfl, (RR_append n t b s1 _ s').2 ⟨rest, o2, s2, rfl, h3, h4⟩⟩
theorem RR_snoc {n : Int} {ops : List S33} {s s1 s2 : St} {outs : List S42} {o : S33} {x : S42} (h : RR n ops s outs s1) (hs : stepR n s1 o s2 x) : RR n (ops ++ [o]) s (outs ++ [x]) s2 :=
  (RR_append n ops [o] s _ s2).2 ⟨outs, [x], s1, rfl, h, s2, x, [], hs, rfl, rfl, rfl⟩
theorem RR_len (n : Int) : ∀ (ops : List S33) (s : St) (outs : List S42) (s' : St), RR n ops s outs s' → outs.length = ops.length
  | [], s, outs, s', h => by rw [h.1]; rfl
  | o :: t, s, outs, s', h => by
    obtain ⟨s1, x, rest, _, rfl, h2⟩ := h
    rw [List.length_cons, List.length_cons, RR_len n t s1 rest s' h2]
theorem without_le (l : List KV) (k : Int) : (without l k).length ≤ l.length := List.length_filter_le _ _
theorem addF_le (n : Int) (l : List KV) (k v : Int) : (addF n l k v).1.length ≤ l.length + 1 := by
  unfold addF
  split
  · have := without_le l k; rw [List.length_cons]; omega
  · split <;> simp <;> omega
theorem getF_le (l : List KV) (k : Int) : (getF l k).1.length ≤ l.length + 1 := by
  unfold getF
  split
  · have := without_le l k; rw [List.length_cons]; omega
  · simp
theorem stepR_bnd {n : Int} {s s' : St} {o : S33} {x : S42} (h : stepR n s o s' x) (h0 : 0 ≤ s.hits) (h1 : 0 ≤ s.miss) : 0 ≤ s'.hits ∧ 0 ≤ s'.miss ∧ s'.hits + s'.miss ≤ s.hits + s.miss + 1 ∧ s'.l.length ≤ s.l.length + 1 := by
  by_cases h5 : o.f0 = 5
  · obtain ⟨rfl, _⟩ := h.1 h5
    refine ⟨Int.le_refl _, Int.le_refl _, ?_, ?_⟩
    · dsimp only; omega
    · simp
  · have e := h.2 h5
    have e1 : s' = (stepG n s o).1 := congrArg Prod.fst e
    subst e1
    have a1 := addF_le n s.l o.f1 o.f2
    have a2 := getF_le s.l o.f1
    have a3 := without_le s.l o.f1
    unfold stepG
    split
    · dsimp only; omega
    split
    · dsimp only; split <;> omega
    split
    · split <;> dsimp only <;> omega
    split
    · dsimp only; omega
    split
    · dsimp only; rw [List.length_dropLast]; omega
    split
    · dsimp only; omega
    split
    · dsimp only; omega
    · dsimp only; omega
theorem RR_bnd {n : Int} : ∀ (ops : List S33) (s : St) (outs : List S42) (s' : St), RR n ops s outs s' → 0 ≤ s.hits → 0 ≤ s.miss → 0 ≤ s'.hits ∧ 0 ≤ s'.miss ∧ s'.hits + s'.miss ≤ s.hits + s.miss + ops.length ∧ s'.l.length ≤ s.l.length + ops.length
  | [], s, outs, s', h, h0, h1 => by obtain ⟨_, rfl⟩ := h; simp; omega
  | o :: t, s, outs, s', h, h0, h1 => by
    obtain ⟨s1, x, rest, h2, rfl, h3⟩ := h
    obtain ⟨b1, b2, b3, b4⟩ := stepR_bnd h2 h0 h1
    obtain ⟨c1, c2, c3, c4⟩ := RR_bnd t s1 rest s' h3 b1 b2
    rw [List.length_cons]
    omega
end Go.Proofs.Ytphnnbbgcnilgaa.CacY
