/-
  Proved: Add and Get of a cache as plain functions on a list of keys and values; a new cache. Conditions: the cache's state; no callback.
-/
import Derived.Test.YtphnnbbgcnilgaaCacU
namespace Go.Proofs.Ytphnnbbgcnilgaa.CacV
open Go Go.RowKit Go.Proofs.YtphnnbbgcnilgaaW.PrintWords Go.Proofs.Ytphnnbbgcnilgaa.Common Go.Proofs.Ytphnnbbgcnilgaa.IMapN Go.Proofs.Ytphnnbbgcnilgaa.CacA Go.Proofs.Ytphnnbbgcnilgaa.CacS Go.Proofs.Ytphnnbbgcnilgaa.CacT Go.Proofs.Ytphnnbbgcnilgaa.CacU
set_option linter.unusedVariables false
set_option linter.unusedSimpArgs false
set_option maxRecDepth 1000000

def hasK (l : List KV) (k : Int) : Bool := l.any fun x => decide (x.1 = k)
def addF (n : Int) (l : List KV) (k v : Int) : List KV × Bool :=
  if hasK l k = true then ((k, v) :: without l k, false) else if n ≤ (l.length : Int) then ((k, v) :: l.dropLast, true) else ((k, v) :: l, false)
def getF (l : List KV) (k : Int) : List KV × Int × Bool := match l.find? fun x => decide (x.1 = k) with
  | some x => ((k, x.2) :: without l k, x.2, true)
  | none => (l, 0, false)
theorem split_key {l : List E} {k : Int} (h : hasK (kvs l) k = true) : ∃ A g v B, l = A ++ (g, k, v) :: B ∧ ∀ x ∈ A, x.2.1 ≠ k := by
  induction l with
  | nil => simp [hasK, kvs] at h
  | cons x t ih =>
    obtain ⟨xg, xk, xv⟩ := x
    by_cases hx : xk = k
    · subst hx; exact ⟨[], xg, xv, t, rfl, by simp⟩
    · obtain ⟨A, g, v, B, rfl, hA⟩ := ih (by simpa [hasK, kvs, hx] using h)
      exact ⟨(xg, xk, xv) :: A, g, v, B, rfl, fun y hy => by
        rcases List.mem_cons.1 hy with rfl | hy
        · exact hx
        · exact hA y hy⟩
theorem no_key {l : List E} {k : Int} (h : ¬ hasK (kvs l) k = true) : ∀ x ∈ l, x.2.1 ≠ k := fun x hx e => h (by
  simp only [hasK, kvs, List.any_map, List.any_eq_true]
  exact ⟨x, hx, by simpa using e⟩)
theorem find_mid {A B : List E} {g : Nat} {k v : Int} (h : ∀ x ∈ A, x.2.1 ≠ k) : (kvs (A ++ (g, k, v) :: B)).find? (fun x => decide (x.1 = k)) = some (k, v) := by
  induction A with
  | nil => simp [kvs]
  | cons x t ih =>
    have h1 := h x (by simp)
    have := ih (fun y hy => h y (by simp [hy]))
    simp only [kvs, List.cons_append, List.map_cons, List.find?_cons, h1, decide_false] at this ⊢
    exact this
theorem kvs_append (a b : List E) : kvs (a ++ b) = kvs a ++ kvs b := List.map_append
theorem own_put {C m g : Nat} {k v : Int} {A l : List E} {W : World} (hA : ∀ x ∈ A, ∃ y ∈ l, y.1 = x.1) (hg : (∃ y ∈ l, y.1 = g) ∨ W.heap.size ≤ g) : ∀ b, own C m ((g, k, v) :: A) b → own C m l b ∨ W.heap.size ≤ b := by
  rintro b (h | h | ⟨x, hx, h⟩)
  · exact Or.inl (Or.inl h)
  · exact Or.inl (Or.inr (Or.inl h))
  · rcases List.mem_cons.1 hx with rfl | hx
    · rcases hg with ⟨y, hy, e⟩ | hg
      · exact Or.inl (Or.inr (Or.inr ⟨y, hy, e.trans h⟩))
      · exact Or.inr (by dsimp only at h; omega)
    · obtain ⟨y, hy, e⟩ := hA x hx
      exact Or.inl (Or.inr (Or.inr ⟨y, hy, e.trans h⟩))
theorem mid_sub {A B : List E} {g : Nat} {k v : Int} : (∀ x ∈ A ++ B, ∃ y ∈ A ++ (g, k, v) :: B, y.1 = x.1) ∧ ∃ y ∈ A ++ (g, k, v) :: B, y.1 = g :=
  ⟨fun x hx => ⟨x, by rcases List.mem_append.1 hx with h | h <;> simp [h], rfl⟩, ⟨(g, k, v), by simp, rfl⟩⟩
theorem add_c {C m : Nat} {sz hits miss : Int} {l : List E} {k v : Int} {w : World} (h : CS .nilFunc C sz m hits miss l w) (hw : (Lit.int .i64 k).wf = true) (hsz : 0 < sz) :
    Calls Try.prog 29 #[.pointer (some ⟨C, 0, none⟩), .int .i64 k, .int .i64 v] w fun e w' => ∃ l', e = .returned (.bool (addF sz (kvs l) k v).2) ∧ CS .nilFunc C sz m hits miss l' w' ∧ kvs l' = (addF sz (kvs l) k v).1 ∧ KeptB (own C m l) w w' ∧ ∀ b, own C m l' b → own C m l b ∨ w.heap.size ≤ b := by
  unfold addF
  by_cases hk : hasK (kvs l) k = true
  · rw [if_pos hk]
    obtain ⟨A, g, v0, B, rfl, hA⟩ := split_key hk
    refine (add_hit h hsz).mono ?_
    rintro e w' ⟨rfl, h1, h2⟩
    exact ⟨_, rfl, h1, by rw [without_mid h.nk]; rfl, h2, own_put mid_sub.1 (Or.inl mid_sub.2)⟩
  · rw [if_neg hk]
    have hn := no_key hk
    by_cases hl : sz ≤ (l.length : Int)
    · rw [if_pos (by simpa [kvs] using hl)]
      rcases l.eq_nil_or_concat with rfl | ⟨A, ⟨g, k0, v0⟩, rfl⟩
      · simp at hl; omega
      · rw [List.concat_eq_append] at *
        refine (add_full (A := A) (v := v) (Rel := fun w1 => KeptB (own C m (A ++ [(g, k0, v0)])) w w1) h ?_ hn (fun x hx => hn x (by simp [hx])) hw hsz hl).mono ?_
        · rintro W ⟨n, rfl⟩
          refine (oldest_c (w := w.drewN n) (CS.frame h (fun b _ => rfl))).mono ?_
          rintro e w1 ⟨u, rfl, h1, h2⟩
          exact ⟨u, rfl, h1, ⟨h2.os, h2.tape, h2.output, h2.size, h2.blk⟩⟩
        · rintro e w' ⟨rfl, w1, h1, g1, hg1, h2, h3⟩
          refine ⟨_, rfl, h2, by simp [kvs], h1.trans h3 (fun b hb ho => ?_), own_put (fun x hx => ⟨x, by simp [hx], rfl⟩) (Or.inr (Nat.le_trans h1.size hg1))⟩
          rcases ho with ho | ho | ⟨x, hx, ho⟩
          · exact Or.inl ho
          · exact Or.inr (Or.inl ho)
          · exact Or.inr (Or.inr ⟨x, by simp [hx], ho⟩)
    · rw [if_neg (by simpa [kvs] using hl)]
      refine (add_miss h hn hw hsz (by omega)).mono ?_
      rintro e w' ⟨rfl, g, hg, h1, h2⟩
      exact ⟨_, rfl, h1, rfl, h2, own_put (fun x hx => ⟨x, hx, rfl⟩) (Or.inr hg)⟩
theorem get_c {ev : Value} {C m : Nat} {sz hits miss : Int} {l : List E} {k : Int} {w : World} (h : CS ev C sz m hits miss l w) (hw : (Lit.int .i64 k).wf = true) (hsz : 0 < sz) (h0 : 0 ≤ hits) (h1 : hits ≤ 1000000) (h2 : 0 ≤ miss) (h3 : miss ≤ 1000000) :
    Calls Try.prog 30 #[.pointer (some ⟨C, 0, none⟩), .int .i64 k] w fun e w' => ∃ l', e = .returned (.tuple #[.int .i64 (getF (kvs l) k).2.1, .bool (getF (kvs l) k).2.2]) ∧ CS ev C sz m (if (getF (kvs l) k).2.2 = true then hits + 1 else hits) (if (getF (kvs l) k).2.2 = true then miss else miss + 1) l' w' ∧ kvs l' = (getF (kvs l) k).1 ∧ KeptB (own C m l) w w' ∧ ∀ b, own C m l' b → own C m l b ∨ w.heap.size ≤ b := by
  by_cases hk : hasK (kvs l) k = true
  · obtain ⟨A, g, v0, B, rfl, hA⟩ := split_key hk
    have e : getF (kvs (A ++ (g, k, v0) :: B)) k = ((k, v0) :: kvs (A ++ B), v0, true) := by
      unfold getF; rw [find_mid hA]; dsimp only; rw [without_mid h.nk]
    rw [e]
    refine (get_hit h hsz h0 h1).mono ?_
    rintro e w' ⟨rfl, h1, h2⟩
    exact ⟨_, rfl, h1, rfl, h2, own_put mid_sub.1 (Or.inl mid_sub.2)⟩
  · have hn := no_key hk
    have e : getF (kvs l) k = (kvs l, 0, false) := by
      unfold getF
      rw [List.find?_eq_none.2 (fun x hx => by
        obtain ⟨y, hy, rfl⟩ := List.mem_map.1 hx
        simpa using hn y hy)]
    rw [e]
    refine (get_miss h hn hw hsz h2 h3).mono ?_
    rintro e w' ⟨rfl, h1, h2⟩
    exact ⟨_, rfl, h1, rfl, h2, fun b hb => Or.inl hb⟩
theorem cs_made (ev : Value) (n : Int) (w : World) : CS ev (w.heap.size + 1) n w.heap.size 0 0 [] ((w.alloc (.map #[] 0)).alloc (.cells #[.int .i64 n, .map (some w.heap.size), .pointer none, .pointer none, ev, .int .i64 0, .int .i64 0] 94 (0, 0))) := by
  have h := imapN_made w .i64
  refine ⟨⟨?_, trivial, by simp⟩, ?_, by simp, by simp⟩
  · have := (MapKept.heap_alloc (w.alloc (.map #[] 0)) (.cells #[.int .i64 n, .map (some w.heap.size), .pointer none, .pointer none, ev, .int .i64 0, .int .i64 0] 94 (0, 0))).1
    rwa [show (w.alloc (.map #[] 0)).heap.size = w.heap.size + 1 by simp] at this
  · exact imapN_alloc h _
theorem run_mk (n : Int) (w : World) : (Instr.makeMap 91 (some (.int .i64 n))).run Try.prog w = .ok (.map (some w.heap.size)) (w.alloc (.map #[] 0)) := by
  simp [Instr.makeMap, run_underlying Try.underlying91, asInt, asIntOf, Result.andThen]
set_option maxHeartbeats 1000000 in
theorem evict_c {n : Int} {w : World} (h0 : 0 < n) (h1 : n ≤ 100000) :
    Calls Try.prog 27 #[.int .i64 n, .nilFunc] w fun e w' => ∃ C m, e = .returned (.pointer (some ⟨C, 0, none⟩)) ∧ w.heap.size ≤ C ∧ w.heap.size ≤ m ∧ CS .nilFunc C n m 0 0 [] w' ∧ Below w.heap.size w w' := by
  have d1 : decide (n ≤ 0) = false := decide_eq_false (by omega)
  have d2 : decide (n > 100000) = false := decide_eq_false (by omega)
  have hmk := run_mk n w
  go_enter Try.func27, Try.ntmps27
  go_wp2
  go_ret
  exact ⟨_, _, rfl, Nat.le_succ _, Nat.le_refl _, cs_made .nilFunc n w, ((Below.refl _ _).alloc (Nat.le_refl _) _).alloc (by simp) _⟩
theorem new_c {n : Int} {w : World} (h0 : 0 < n) (h1 : n ≤ 100000) :
    Calls Try.prog 26 #[.int .i64 n] w fun e w' => ∃ C m, e = .returned (.pointer (some ⟨C, 0, none⟩)) ∧ w.heap.size ≤ C ∧ w.heap.size ≤ m ∧ CS .nilFunc C n m 0 0 [] w' ∧ Below w.heap.size w w' := by
  have HC := Aside0.mk (evict_c (w := w) h0 h1)
  clear h0 h1
  go_enter Try.func26, Try.ntmps26
  go_wp2_with (go_at_call 27; refine HC.out.mono ?_; rintro e w1 ⟨C, m, rfl, h1, h2, h3, h4⟩; have H1 := Aside0.mk h1; have H2 := Aside0.mk h2; have H3 := Aside0.mk h3; have H4 := Aside0.mk h4; clear h1 h2 h3 h4)
  go_ret
  exact ⟨_, _, rfl, H1.out, H2.out, H3.out, H4.out⟩
end Go.Proofs.Ytphnnbbgcnilgaa.CacV
