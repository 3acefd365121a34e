/-
  Proved: Purge of a cache with the script's callback: it is told every entry once. Conditions: the cache's state; nothing is gone yet.
-/
import Derived.Test.YtphnnbbgcnilgaaCacH
import Derived.Test.YtphnnbbgcnilgaaCacN
import Derived.LoopTactic
namespace Go.Proofs.Ytphnnbbgcnilgaa.CacI
open Go Go.RowKit Go.ChangeMaps Go.Proofs.YtphnnbbgcnilgaaW.PrintWords Go.Proofs.Ytphnnbbgcnilgaa.Common Go.Proofs.Ytphnnbbgcnilgaa.IMapN Go.Proofs.Ytphnnbbgcnilgaa.CacN Go.Proofs.Ytphnnbbgcnilgaa.CacA Go.Proofs.Ytphnnbbgcnilgaa.CacS Go.Proofs.Ytphnnbbgcnilgaa.CacT Go.Proofs.Ytphnnbbgcnilgaa.CacU Go.Proofs.Ytphnnbbgcnilgaa.CacV Go.Proofs.Ytphnnbbgcnilgaa.CacW Go.Proofs.Ytphnnbbgcnilgaa.CacG Go.Proofs.Ytphnnbbgcnilgaa.CacH
set_option linter.unusedVariables false
set_option linter.unusedSimpArgs false
set_option maxRecDepth 1000000
/-- the map's block beside its state -/
theorem CS.map {ev : Value} {C m : Nat} {sz hits miss : Int} {l : List E} {W : World} (h : CS ev C sz m hits miss l W) : ∃ es clock, W.heap[m]? = some (.map es clock) ∧ es.size = l.length ∧ stamps es clock ∧ (∀ e ∈ es.toList, ∃ x ∈ l, e.key = .int .i64 x.2.1 ∧ e.val = .pointer (some ⟨x.1, 0, none⟩)) ∧ es.toList.Pairwise (fun a b => a.key ≠ b.key) := by
  obtain ⟨es, clock, h1, h2, h3, h4, h5, h6⟩ := h.mp
  refine ⟨es, clock, h1, h2, h3, fun e he => ?_, h5⟩
  obtain ⟨k, hk, _⟩ := h4 e he
  have := (h6 k e.val).2 ⟨e, he, hk, rfl⟩
  unfold lookE at this
  obtain ⟨x, hx, hv⟩ := Option.map_eq_some_iff.1 this
  have h7 : x.2.1 = k := by simpa using List.find?_some hx
  exact ⟨x, List.mem_of_find?_eq_some hx, by rw [hk, h7], hv.symm⟩
def keyOfE (e : MapEntry) : Int := match e.key with | .int _ k => k | _ => 0
def kvE (l : List KV) (e : MapEntry) : KV := (keyOfE e, ((l.find? fun x => decide (x.1 = keyOfE e)).map (·.2)).getD 0)
theorem kvE_of {l : List E} (hn : l.Pairwise fun a b => a.2.1 ≠ b.2.1) {e : MapEntry} {x : E} (hx : x ∈ l) (he : e.key = .int .i64 x.2.1) : kvE (kvs l) e = x.2 := by
  have hk : keyOfE e = x.2.1 := by unfold keyOfE; rw [he]
  obtain ⟨A, B, rfl⟩ := List.append_of_mem hx
  obtain ⟨g, k, v⟩ := x
  unfold kvE
  rw [hk, find_mid (fun y hy => (nk_mid hn).1 y (by simp [hy]))]
  rfl
/-- of all entries that the loop has handed out -/
def told (l : List KV) (es : Array MapEntry) (seen : Array Nat) : List KV := (es.toList.filter fun e => seen.contains e.born).map (kvE l)
theorem told_nil (l : List KV) (es : Array MapEntry) : told l es #[] = [] := by
  unfold told
  rw [List.filter_eq_nil_iff.2 (by simp)]; rfl
theorem told_step (l : List KV) (es : Array MapEntry) (seen : Array Nat) (hn : (es.toList.map (·.born)).Nodup) (e : MapEntry) (he : e ∈ (leftOf es seen).toList) (G : List KV) (hG : G.Perm (told l es seen)) : (G ++ [kvE l e]).Perm (told l es (seen.push e.born)) := by
  have he1 : e ∈ es.toList := by
    unfold leftOf at he
    rw [Array.toList_filter] at he
    exact (List.mem_filter.1 he).1
  have he2 : seen.contains e.born = false := by
    unfold leftOf at he
    rw [Array.toList_filter] at he
    simpa using (List.mem_filter.1 he).2
  refine List.Perm.trans (List.Perm.append_right _ hG) ?_
  unfold told
  rw [show [kvE l e] = [e].map (kvE l) from rfl, ← List.map_append]
  refine List.Perm.map _ ?_
  have : ∀ L : List MapEntry, (L.map (·.born)).Nodup → e ∈ L → ((L.filter fun x => seen.contains x.born) ++ [e]).Perm (L.filter fun x => (seen.push e.born).contains x.born) := by
    intro L
    induction L with
    | nil => intro _ h; cases h
    | cons y t ih =>
      intro hn h
      rw [List.map_cons, List.nodup_cons] at hn
      have hp : ∀ x : MapEntry, (seen.push e.born).contains x.born = (seen.contains x.born || decide (x.born = e.born)) := by
        intro x
        rw [Bool.eq_iff_iff]
        simp [Array.mem_push]
      rcases List.mem_cons.1 h with rfl | h
      · have ht : (t.filter fun x => (seen.push e.born).contains x.born) = t.filter fun x => seen.contains x.born := List.filter_congr (fun x hx => by
          rw [hp]
          have : x.born ≠ e.born := fun h => hn.1 (h ▸ List.mem_map_of_mem hx)
          simp [this])
        rw [List.filter_cons, List.filter_cons, he2, if_neg (by simp), if_pos (by rw [hp]; simp), ht]
        exact (List.perm_append_singleton e _)
      · have hye : y.born ≠ e.born := fun h2 => hn.1 (h2 ▸ List.mem_map_of_mem h)
        have hyp : (seen.push e.born).contains y.born = seen.contains y.born := by rw [hp]; simp [hye]
        rw [List.filter_cons, List.filter_cons, hyp]
        split
        · exact List.Perm.cons y (ih hn.2 h)
        · exact ih hn.2 h
  exact this es.toList hn he1
theorem perm_of_sub : ∀ (A B : List KV), A.Nodup → (∀ x ∈ A, x ∈ B) → B.length ≤ A.length → A.Perm B
  | [], B, _, _, h => by
    have : B = [] := List.eq_nil_of_length_eq_zero (by simpa using h)
    rw [this]
  | x :: t, B, hn, hs, hl => by
    rw [List.nodup_cons] at hn
    have hx := hs x (by simp)
    have hp := List.perm_cons_erase hx
    refine List.Perm.trans (List.Perm.cons x (perm_of_sub t (B.erase x) hn.2 (fun y hy => ?_) ?_)) hp.symm
    · exact (List.mem_erase_of_ne (fun e => hn.1 (by rw [← e]; exact hy))).2 (hs y (by simp [hy]))
    · rw [List.length_erase_of_mem hx]
      simp at hl
      omega
theorem told_all {l : List E} {es : Array MapEntry} {seen : Array Nat} (h0 : (leftOf es seen).size = 0) (hn : l.Pairwise fun a b => a.2.1 ≠ b.2.1) (hm : ∀ e ∈ es.toList, ∃ x ∈ l, e.key = .int .i64 x.2.1 ∧ e.val = .pointer (some ⟨x.1, 0, none⟩)) (hp : es.toList.Pairwise (fun a b => a.key ≠ b.key)) (hs : es.size = l.length) : (told (kvs l) es seen).Perm (kvs l) := by
  have hall : (es.toList.filter fun e => seen.contains e.born) = es.toList := by
    refine List.filter_eq_self.2 (fun e he => ?_)
    cases hc : seen.contains e.born with
    | true => rfl
    | false =>
      have : e ∈ (leftOf es seen).toList := by
        unfold leftOf
        rw [Array.toList_filter]
        exact List.mem_filter.2 ⟨he, by simpa using hc⟩
      rw [Array.eq_empty_of_size_eq_zero h0] at this
      simp at this
  unfold told
  rw [hall]
  have hnod : (es.toList.map (kvE (kvs l))).Nodup := by
    rw [List.nodup_iff_pairwise_ne, List.pairwise_map]
    refine hp.imp_of_mem (fun {a b} ha hb h e => h ?_)
    obtain ⟨x, hx, hx1, _⟩ := hm a ha
    obtain ⟨y, hy, hy1, _⟩ := hm b hb
    rw [kvE_of hn hx hx1, kvE_of hn hy hy1] at e
    rw [hx1, hy1, e]
  have hsub : ∀ z ∈ es.toList.map (kvE (kvs l)), z ∈ kvs l := by
    intro z hz
    obtain ⟨a, ha, rfl⟩ := List.mem_map.1 hz
    obtain ⟨x, hx, hx1, _⟩ := hm a ha
    rw [kvE_of hn hx hx1]
    exact List.mem_map_of_mem hx
  exact perm_of_sub _ _ hnod hsub (by simp [kvs, hs])
end Go.Proofs.Ytphnnbbgcnilgaa.CacI
