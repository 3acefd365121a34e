/-
  Proved: what Indent, UnIndent and Reset of a list writer do. Conditions: at most 100000 items.
-/
import Derived.Test.YtphnnbbgcnilgaaDoorGELx
import Derived.Test.YtphnnbbgcnilgaaDoorCommon
import Derived.Test.YtphnnbbgcnilgaaDoorBld
import Derived.Test.YtphnnbbgcnilgaaDoorShelf
import Derived.Test.YtphnnbbgcnilgaaDoorWMore
import Derived.WalkKit
import Derived.BigCall
import Derived.Laws.IdiomStrings
import Derived.Laws.Cover4
import Derived.Deep.RegionHeld3
import Derived.BigQuiet
namespace Go.Proofs.YtphnnbbgcnilgaaDoor.LstT
open Go.RowKit Go.Proofs.YtphnnbbgcnilgaaDoorW.PrintWords Go.Proofs.YtphnnbbgcnilgaaDoor.Common Go.Proofs.YtphnnbbgcnilgaaDoor.GEL
set_option linter.unusedVariables false
set_option linter.unusedSimpArgs false
set_option maxRecDepth 1000000

/-- a text without tabs, line feeds, carriage returns -/
def good (s : ByteArray) : Prop := s.size ≤ 1000 ∧ ∀ c ∈ s.data.toList, c ≠ 9 ∧ c ≠ 10 ∧ c ≠ 13
theorem find_none (c : UInt8) (t : List UInt8) (l : List UInt8) (h : ∀ d ∈ l, d ≠ c) : findSub (c :: t) l = none := by
  induction l with
  | nil => unfold findSub; rw [if_neg (by simp)]
  | cons d u ih =>
    unfold findSub
    rw [if_neg, ih (fun x hx => h x (by simp [hx]))]
    · rfl
    · intro hp
      have := List.isPrefixOf_iff_prefix.1 hp
      rw [List.cons_prefix_cons] at this
      exact h d (by simp) this.1.symm
theorem index_l (s sub : ByteArray) (hs : s.size ≤ 4611686018427387904) (hb : sub.size ≤ 2305843009213693952) : Ev (fun k => list_zzIndex.f k s sub) (idxOf sub.data.toList s.data.toList) :=
  index_ev list_zzIndex.l0 (fun k x0 x1 x5 => by simp only [list_zzIndex.l0]) s sub hs hb
theorem index_t (s sub : ByteArray) (hs : s.size ≤ 4611686018427387904) (hb : sub.size ≤ 2305843009213693952) : Ev (fun k => text_zzIndex.f k s sub) (idxOf sub.data.toList s.data.toList) :=
  index_ev text_zzIndex.l0 (fun k x0 x1 x5 => by simp only [text_zzIndex.l0]) s sub hs hb
theorem repl_same (c : UInt8) (t new : List UInt8) (n : Nat) (l : List UInt8) (h : ∀ d ∈ l, d ≠ c) : replL (c :: t) new n l = l := by
  cases n with
  | zero => rfl
  | succ n => rw [replL, find_none c t l h]
theorem replL_c (s new : ByteArray) (hs : s.size ≤ 1000) (hn : new.size ≤ 1000) (c : UInt8) (h : ∀ d ∈ s.data.toList, d ≠ c) (W : World) :
    Calls Tryd.prog 53 #[.string s, .string ⟨#[c]⟩, .string new] W fun e w' => e = .returned (.string s) ∧ Below W.heap.size W w' := by
  have hmul : s.size * (new.size + 1) < 140737488355328 := Nat.lt_of_le_of_lt (Nat.mul_le_mul hs (show new.size + 1 ≤ 1001 by omega)) (by decide)
  obtain ⟨k, hk⟩ := repl_ev list_zzIndex.f list_zzReplaceAll.l1 index_l (fun k x0 x1 x2 x7 => by rw [list_zzReplaceAll.l1]) list_zzReplaceAll.f (fun k a0 a1 a2 h => by rw [list_zzReplaceAll.f, if_neg h]) s ⟨#[c]⟩ new (by show 0 < 1; omega) (by show 1 ≤ _; omega) (by omega) hmul
  rw [show (⟨#[c]⟩ : ByteArray).data.toList = [c] from rfl, repl_same c [] _ _ _ h, ofL_of] at hk
  exact list_zzReplaceAll.calls k s _ new s W (hk k (Nat.le_refl _))
theorem crlf_c (s : ByteArray) (hs : good s) (W : World) : Calls Tryd.prog 67 #[.string s] W fun e w' => e = .returned (.string s) ∧ Below W.heap.size W w' := by
  have H1 : ∀ W, Aside0 (Calls Tryd.prog 85 #[.string s, .string ⟨#[13, 10]⟩, .string ⟨#[10]⟩] W fun e w' => e = .returned (.string s) ∧ Below W.heap.size W w') := fun W => by
    have h1 := hs.1
    obtain ⟨k, hk⟩ := repl_ev text_zzIndex.f text_zzReplaceAll.l1 index_t (fun k x0 x1 x2 x7 => by rw [text_zzReplaceAll.l1]) text_zzReplaceAll.f (fun k a0 a1 a2 h => by rw [text_zzReplaceAll.f, if_neg h]) s ⟨#[13, 10]⟩ ⟨#[10]⟩ (by show 0 < 2; omega) (by show 2 ≤ _; omega) (by omega) (by show s.size * (1 + 1) < _; omega)
    rw [show (⟨#[13, 10]⟩ : ByteArray).data.toList = [13, 10] from rfl, repl_same 13 [10] _ _ _ (fun d hd => (hs.2 d hd).2.2), ofL_of] at hk
    exact Aside0.mk (text_zzReplaceAll.calls k s _ _ s W (hk k (Nat.le_refl _)))
  have H2 : ∀ W, Aside0 (Calls Tryd.prog 86 #[.string s, .string ⟨#[13]⟩] W fun e w' => e = .returned (.bool false) ∧ Drawn0 W w') := fun W => by
    have h1 := hs.1
    obtain ⟨k, hk⟩ := index_t s ⟨#[13]⟩ (by omega) (by show 1 ≤ _; omega)
    have hf : text_zzContains.f k s ⟨#[13]⟩ = some false := by
      have h2 : text_zzIndex.f k s ⟨#[13]⟩ = some (-1) := by
        refine (hk k (Nat.le_refl _)).trans ?_
        rw [show (⟨#[13]⟩ : ByteArray).data.toList = [13] from rfl]
        unfold idxOf
        rw [find_none 13 [] _ (fun d hd => (hs.2 d hd).2.2)]
      rw [text_zzContains.f, h2]
      rfl
    exact Aside0.mk (text_zzContains.calls k s _ false W hf)
  go_enter Tryd.func67, Tryd.ntmps67
  go_wp2_with (first
    | (go_at_call 85; refine (H1 _).out.mono ?_; rintro e w1 ⟨rfl, hb⟩; have HB1 := Aside0.mk hb; clear hb)
    | (go_at_call 86; refine (H2 _).out.mono ?_; rintro e w2 ⟨rfl, hd⟩; have HD2 := Aside0.mk hd; clear hd))
  go_ret
  obtain ⟨n, rfl⟩ := HD2.out
  exact ⟨rfl, pw_below_drewN HB1.out n⟩
theorem text_c (s : ByteArray) (W : World) : Calls Tryd.prog 66 #[.iface 9 (.string s)] W fun e w' => e = .returned (.string s) ∧ w' = W := by
  have hta : ∀ w, (Instr.typeAssert (.iface 9 (.string s)) 20 9 true).run Tryd.prog w = .ok (.tuple #[.string s, .bool true]) w := fun _ => by kernel_rfl
  go_enter Tryd.func66, Tryd.ntmps66
  go_wp2
  go_ret
  exact ⟨rfl, rfl⟩
/-- a text without line feeds, as zzContains and zzSplit see it -/
theorem has_c (s : ByteArray) (hs : good s) (W : World) : Calls Tryd.prog 52 #[.string s, .string ⟨#[10]⟩] W fun e w' => e = .returned (.bool false) ∧ Drawn0 W w' := by
  have h1 := hs.1
  obtain ⟨k, hk⟩ := index_l s ⟨#[10]⟩ (by omega) (by show 1 ≤ _; omega)
  have hf : list_zzContains.f k s ⟨#[10]⟩ = some false := by
    have h2 : list_zzIndex.f k s ⟨#[10]⟩ = some (-1) := by
      refine (hk k (Nat.le_refl _)).trans ?_
      rw [show (⟨#[10]⟩ : ByteArray).data.toList = [10] from rfl]
      unfold idxOf
      rw [find_none 10 [] _ (fun d hd => (hs.2 d hd).2.1)]
    rw [list_zzContains.f, h2]
    rfl
  exact list_zzContains.calls k s _ false W hf
theorem split_c (s : ByteArray) (hs : good s) (W : World) : Calls Tryd.prog 54 #[.string s, .string ⟨#[10]⟩] W fun e w' => ∃ v : Value, e = .returned v ∧ Kd.R Kd.string 9 w' W.heap.size (fun _ => True) v [s] ∧ Below W.heap.size W w' := by
  have h1 := hs.1
  obtain ⟨k, hk⟩ := split_loop list_zzIndex.f list_zzSplit.l1 index_l (fun k x0 x1 x5 => by rw [list_zzSplit.l1]) ⟨#[10]⟩ (by show 0 < 1; omega) (by show 1 ≤ _; omega) s.size s [] (Nat.le_refl _) (by omega) (by simp; omega)
  have e : splitL (⟨#[10]⟩ : ByteArray).data.toList s.size s.data.toList = [s.data.toList] := by
    rw [show (⟨#[10]⟩ : ByteArray).data.toList = [10] from rfl]
    cases s.size with
    | zero => rfl
    | succ n => rw [splitL, find_none 10 [] _ (fun d hd => (hs.2 d hd).2.1)]
  rw [e, List.nil_append, List.map_singleton, ofL_of] at hk
  exact list_zzSplit.calls k s _ [s] W (by rw [list_zzSplit.f, if_neg (by show ¬ ((1 : Nat) : Int) = 0; omega)]; exact hk k (Nat.le_refl _))
end Go.Proofs.YtphnnbbgcnilgaaDoor.LstT

namespace Go.Proofs.YtphnnbbgcnilgaaDoor.LstR
open Go Go.RowKit
set_option linter.unusedVariables false
section
variable {P : Program} {md : Region.Mode} {o0 o1 o2 o3 o4 o5 o6 o7 o8 o9 o10 o11 o12 : Oper} {Q : Exit → Act → World → Prop} {S : World → Prop} {fuel : Nat} {listed : Array Bool} {a : Act} {w : World} {v : Value}
theorem tk0 (hs : Region.noSelect #[o0, o1, o2, o3, o4, o5, o6, o7, o8, o9, o10, o11, o12] = true) (hf : Region.free md #[o0, o1, o2, o3, o4, o5, o6, o7, o8, o9, o10, o11, o12] listed 0 = true) (hr : (Region.ready md #[o0, o1, o2, o3, o4, o5, o6, o7, o8, o9, o10, o11, o12] listed).contains 0 = true) (hQ : ∀ c a w, Q (.panic c) (a.put o0.dst v) w → Q (.panic c) a w) (hy : YieldsIf P #[o0, o1, o2, o3, o4, o5, o6, o7, o8, o9, o10, o11, o12] S o0 v a) (hS : S w) (h : wpAnyH P md #[o0, o1, o2, o3, o4, o5, o6, o7, o8, o9, o10, o11, o12] Q S fuel (listed.setIfInBounds 0 true) (a.put o0.dst v) w) : wpAnyH P md #[o0, o1, o2, o3, o4, o5, o6, o7, o8, o9, o10, o11, o12] Q S (fuel + 1) listed a w := wpAnyH_take (i := 0) (oi := o0) rfl hs hf hr hQ hy hS h
theorem tk1 (hs : Region.noSelect #[o0, o1, o2, o3, o4, o5, o6, o7, o8, o9, o10, o11, o12] = true) (hf : Region.free md #[o0, o1, o2, o3, o4, o5, o6, o7, o8, o9, o10, o11, o12] listed 1 = true) (hr : (Region.ready md #[o0, o1, o2, o3, o4, o5, o6, o7, o8, o9, o10, o11, o12] listed).contains 1 = true) (hQ : ∀ c a w, Q (.panic c) (a.put o1.dst v) w → Q (.panic c) a w) (hy : YieldsIf P #[o0, o1, o2, o3, o4, o5, o6, o7, o8, o9, o10, o11, o12] S o1 v a) (hS : S w) (h : wpAnyH P md #[o0, o1, o2, o3, o4, o5, o6, o7, o8, o9, o10, o11, o12] Q S fuel (listed.setIfInBounds 1 true) (a.put o1.dst v) w) : wpAnyH P md #[o0, o1, o2, o3, o4, o5, o6, o7, o8, o9, o10, o11, o12] Q S (fuel + 1) listed a w := wpAnyH_take (i := 1) (oi := o1) rfl hs hf hr hQ hy hS h
theorem tk2 (hs : Region.noSelect #[o0, o1, o2, o3, o4, o5, o6, o7, o8, o9, o10, o11, o12] = true) (hf : Region.free md #[o0, o1, o2, o3, o4, o5, o6, o7, o8, o9, o10, o11, o12] listed 2 = true) (hr : (Region.ready md #[o0, o1, o2, o3, o4, o5, o6, o7, o8, o9, o10, o11, o12] listed).contains 2 = true) (hQ : ∀ c a w, Q (.panic c) (a.put o2.dst v) w → Q (.panic c) a w) (hy : YieldsIf P #[o0, o1, o2, o3, o4, o5, o6, o7, o8, o9, o10, o11, o12] S o2 v a) (hS : S w) (h : wpAnyH P md #[o0, o1, o2, o3, o4, o5, o6, o7, o8, o9, o10, o11, o12] Q S fuel (listed.setIfInBounds 2 true) (a.put o2.dst v) w) : wpAnyH P md #[o0, o1, o2, o3, o4, o5, o6, o7, o8, o9, o10, o11, o12] Q S (fuel + 1) listed a w := wpAnyH_take (i := 2) (oi := o2) rfl hs hf hr hQ hy hS h
theorem tk3 (hs : Region.noSelect #[o0, o1, o2, o3, o4, o5, o6, o7, o8, o9, o10, o11, o12] = true) (hf : Region.free md #[o0, o1, o2, o3, o4, o5, o6, o7, o8, o9, o10, o11, o12] listed 3 = true) (hr : (Region.ready md #[o0, o1, o2, o3, o4, o5, o6, o7, o8, o9, o10, o11, o12] listed).contains 3 = true) (hQ : ∀ c a w, Q (.panic c) (a.put o3.dst v) w → Q (.panic c) a w) (hy : YieldsIf P #[o0, o1, o2, o3, o4, o5, o6, o7, o8, o9, o10, o11, o12] S o3 v a) (hS : S w) (h : wpAnyH P md #[o0, o1, o2, o3, o4, o5, o6, o7, o8, o9, o10, o11, o12] Q S fuel (listed.setIfInBounds 3 true) (a.put o3.dst v) w) : wpAnyH P md #[o0, o1, o2, o3, o4, o5, o6, o7, o8, o9, o10, o11, o12] Q S (fuel + 1) listed a w := wpAnyH_take (i := 3) (oi := o3) rfl hs hf hr hQ hy hS h
theorem ac3 (hr : Region.ready md #[o0, o1, o2, o3, o4, o5, o6, o7, o8, o9, o10, o11, o12] listed = [3]) (h : ∀ K' : Act → World → Prop, Shut (∀ a w, S w → (S w → wpAnyH P md #[o0, o1, o2, o3, o4, o5, o6, o7, o8, o9, o10, o11, o12] Q S fuel (listed.setIfInBounds 3 true) a w) → K' a w) → if Region.wanted o3 (yielded #[o0, o1, o2, o3, o4, o5, o6, o7, o8, o9, o10, o11, o12] a.tmps) = true then Oper.wp P o3 a w K' Q else K' (a.put o3.dst undef) w) : wpAnyH P md #[o0, o1, o2, o3, o4, o5, o6, o7, o8, o9, o10, o11, o12] Q S (fuel + 1) listed a w := wpAnyH_ready hr (by simp) (AllReadyH.cons (o := o3) rfl h AllReadyH.nil)
theorem tk4 (hs : Region.noSelect #[o0, o1, o2, o3, o4, o5, o6, o7, o8, o9, o10, o11, o12] = true) (hf : Region.free md #[o0, o1, o2, o3, o4, o5, o6, o7, o8, o9, o10, o11, o12] listed 4 = true) (hr : (Region.ready md #[o0, o1, o2, o3, o4, o5, o6, o7, o8, o9, o10, o11, o12] listed).contains 4 = true) (hQ : ∀ c a w, Q (.panic c) (a.put o4.dst v) w → Q (.panic c) a w) (hy : YieldsIf P #[o0, o1, o2, o3, o4, o5, o6, o7, o8, o9, o10, o11, o12] S o4 v a) (hS : S w) (h : wpAnyH P md #[o0, o1, o2, o3, o4, o5, o6, o7, o8, o9, o10, o11, o12] Q S fuel (listed.setIfInBounds 4 true) (a.put o4.dst v) w) : wpAnyH P md #[o0, o1, o2, o3, o4, o5, o6, o7, o8, o9, o10, o11, o12] Q S (fuel + 1) listed a w := wpAnyH_take (i := 4) (oi := o4) rfl hs hf hr hQ hy hS h
theorem ac4 (hr : Region.ready md #[o0, o1, o2, o3, o4, o5, o6, o7, o8, o9, o10, o11, o12] listed = [4]) (h : ∀ K' : Act → World → Prop, Shut (∀ a w, S w → (S w → wpAnyH P md #[o0, o1, o2, o3, o4, o5, o6, o7, o8, o9, o10, o11, o12] Q S fuel (listed.setIfInBounds 4 true) a w) → K' a w) → if Region.wanted o4 (yielded #[o0, o1, o2, o3, o4, o5, o6, o7, o8, o9, o10, o11, o12] a.tmps) = true then Oper.wp P o4 a w K' Q else K' (a.put o4.dst undef) w) : wpAnyH P md #[o0, o1, o2, o3, o4, o5, o6, o7, o8, o9, o10, o11, o12] Q S (fuel + 1) listed a w := wpAnyH_ready hr (by simp) (AllReadyH.cons (o := o4) rfl h AllReadyH.nil)
theorem tk5 (hs : Region.noSelect #[o0, o1, o2, o3, o4, o5, o6, o7, o8, o9, o10, o11, o12] = true) (hf : Region.free md #[o0, o1, o2, o3, o4, o5, o6, o7, o8, o9, o10, o11, o12] listed 5 = true) (hr : (Region.ready md #[o0, o1, o2, o3, o4, o5, o6, o7, o8, o9, o10, o11, o12] listed).contains 5 = true) (hQ : ∀ c a w, Q (.panic c) (a.put o5.dst v) w → Q (.panic c) a w) (hy : YieldsIf P #[o0, o1, o2, o3, o4, o5, o6, o7, o8, o9, o10, o11, o12] S o5 v a) (hS : S w) (h : wpAnyH P md #[o0, o1, o2, o3, o4, o5, o6, o7, o8, o9, o10, o11, o12] Q S fuel (listed.setIfInBounds 5 true) (a.put o5.dst v) w) : wpAnyH P md #[o0, o1, o2, o3, o4, o5, o6, o7, o8, o9, o10, o11, o12] Q S (fuel + 1) listed a w := wpAnyH_take (i := 5) (oi := o5) rfl hs hf hr hQ hy hS h
theorem tk6 (hs : Region.noSelect #[o0, o1, o2, o3, o4, o5, o6, o7, o8, o9, o10, o11, o12] = true) (hf : Region.free md #[o0, o1, o2, o3, o4, o5, o6, o7, o8, o9, o10, o11, o12] listed 6 = true) (hr : (Region.ready md #[o0, o1, o2, o3, o4, o5, o6, o7, o8, o9, o10, o11, o12] listed).contains 6 = true) (hQ : ∀ c a w, Q (.panic c) (a.put o6.dst v) w → Q (.panic c) a w) (hy : YieldsIf P #[o0, o1, o2, o3, o4, o5, o6, o7, o8, o9, o10, o11, o12] S o6 v a) (hS : S w) (h : wpAnyH P md #[o0, o1, o2, o3, o4, o5, o6, o7, o8, o9, o10, o11, o12] Q S fuel (listed.setIfInBounds 6 true) (a.put o6.dst v) w) : wpAnyH P md #[o0, o1, o2, o3, o4, o5, o6, o7, o8, o9, o10, o11, o12] Q S (fuel + 1) listed a w := wpAnyH_take (i := 6) (oi := o6) rfl hs hf hr hQ hy hS h
theorem tk7 (hs : Region.noSelect #[o0, o1, o2, o3, o4, o5, o6, o7, o8, o9, o10, o11, o12] = true) (hf : Region.free md #[o0, o1, o2, o3, o4, o5, o6, o7, o8, o9, o10, o11, o12] listed 7 = true) (hr : (Region.ready md #[o0, o1, o2, o3, o4, o5, o6, o7, o8, o9, o10, o11, o12] listed).contains 7 = true) (hQ : ∀ c a w, Q (.panic c) (a.put o7.dst v) w → Q (.panic c) a w) (hy : YieldsIf P #[o0, o1, o2, o3, o4, o5, o6, o7, o8, o9, o10, o11, o12] S o7 v a) (hS : S w) (h : wpAnyH P md #[o0, o1, o2, o3, o4, o5, o6, o7, o8, o9, o10, o11, o12] Q S fuel (listed.setIfInBounds 7 true) (a.put o7.dst v) w) : wpAnyH P md #[o0, o1, o2, o3, o4, o5, o6, o7, o8, o9, o10, o11, o12] Q S (fuel + 1) listed a w := wpAnyH_take (i := 7) (oi := o7) rfl hs hf hr hQ hy hS h
theorem ac7 (hr : Region.ready md #[o0, o1, o2, o3, o4, o5, o6, o7, o8, o9, o10, o11, o12] listed = [7]) (h : ∀ K' : Act → World → Prop, Shut (∀ a w, S w → (S w → wpAnyH P md #[o0, o1, o2, o3, o4, o5, o6, o7, o8, o9, o10, o11, o12] Q S fuel (listed.setIfInBounds 7 true) a w) → K' a w) → if Region.wanted o7 (yielded #[o0, o1, o2, o3, o4, o5, o6, o7, o8, o9, o10, o11, o12] a.tmps) = true then Oper.wp P o7 a w K' Q else K' (a.put o7.dst undef) w) : wpAnyH P md #[o0, o1, o2, o3, o4, o5, o6, o7, o8, o9, o10, o11, o12] Q S (fuel + 1) listed a w := wpAnyH_ready hr (by simp) (AllReadyH.cons (o := o7) rfl h AllReadyH.nil)
theorem tk8 (hs : Region.noSelect #[o0, o1, o2, o3, o4, o5, o6, o7, o8, o9, o10, o11, o12] = true) (hf : Region.free md #[o0, o1, o2, o3, o4, o5, o6, o7, o8, o9, o10, o11, o12] listed 8 = true) (hr : (Region.ready md #[o0, o1, o2, o3, o4, o5, o6, o7, o8, o9, o10, o11, o12] listed).contains 8 = true) (hQ : ∀ c a w, Q (.panic c) (a.put o8.dst v) w → Q (.panic c) a w) (hy : YieldsIf P #[o0, o1, o2, o3, o4, o5, o6, o7, o8, o9, o10, o11, o12] S o8 v a) (hS : S w) (h : wpAnyH P md #[o0, o1, o2, o3, o4, o5, o6, o7, o8, o9, o10, o11, o12] Q S fuel (listed.setIfInBounds 8 true) (a.put o8.dst v) w) : wpAnyH P md #[o0, o1, o2, o3, o4, o5, o6, o7, o8, o9, o10, o11, o12] Q S (fuel + 1) listed a w := wpAnyH_take (i := 8) (oi := o8) rfl hs hf hr hQ hy hS h
theorem ac8 (hr : Region.ready md #[o0, o1, o2, o3, o4, o5, o6, o7, o8, o9, o10, o11, o12] listed = [8]) (h : ∀ K' : Act → World → Prop, Shut (∀ a w, S w → (S w → wpAnyH P md #[o0, o1, o2, o3, o4, o5, o6, o7, o8, o9, o10, o11, o12] Q S fuel (listed.setIfInBounds 8 true) a w) → K' a w) → if Region.wanted o8 (yielded #[o0, o1, o2, o3, o4, o5, o6, o7, o8, o9, o10, o11, o12] a.tmps) = true then Oper.wp P o8 a w K' Q else K' (a.put o8.dst undef) w) : wpAnyH P md #[o0, o1, o2, o3, o4, o5, o6, o7, o8, o9, o10, o11, o12] Q S (fuel + 1) listed a w := wpAnyH_ready hr (by simp) (AllReadyH.cons (o := o8) rfl h AllReadyH.nil)
theorem tk9 (hs : Region.noSelect #[o0, o1, o2, o3, o4, o5, o6, o7, o8, o9, o10, o11, o12] = true) (hf : Region.free md #[o0, o1, o2, o3, o4, o5, o6, o7, o8, o9, o10, o11, o12] listed 9 = true) (hr : (Region.ready md #[o0, o1, o2, o3, o4, o5, o6, o7, o8, o9, o10, o11, o12] listed).contains 9 = true) (hQ : ∀ c a w, Q (.panic c) (a.put o9.dst v) w → Q (.panic c) a w) (hy : YieldsIf P #[o0, o1, o2, o3, o4, o5, o6, o7, o8, o9, o10, o11, o12] S o9 v a) (hS : S w) (h : wpAnyH P md #[o0, o1, o2, o3, o4, o5, o6, o7, o8, o9, o10, o11, o12] Q S fuel (listed.setIfInBounds 9 true) (a.put o9.dst v) w) : wpAnyH P md #[o0, o1, o2, o3, o4, o5, o6, o7, o8, o9, o10, o11, o12] Q S (fuel + 1) listed a w := wpAnyH_take (i := 9) (oi := o9) rfl hs hf hr hQ hy hS h
theorem ac9 (hr : Region.ready md #[o0, o1, o2, o3, o4, o5, o6, o7, o8, o9, o10, o11, o12] listed = [9]) (h : ∀ K' : Act → World → Prop, Shut (∀ a w, S w → (S w → wpAnyH P md #[o0, o1, o2, o3, o4, o5, o6, o7, o8, o9, o10, o11, o12] Q S fuel (listed.setIfInBounds 9 true) a w) → K' a w) → if Region.wanted o9 (yielded #[o0, o1, o2, o3, o4, o5, o6, o7, o8, o9, o10, o11, o12] a.tmps) = true then Oper.wp P o9 a w K' Q else K' (a.put o9.dst undef) w) : wpAnyH P md #[o0, o1, o2, o3, o4, o5, o6, o7, o8, o9, o10, o11, o12] Q S (fuel + 1) listed a w := wpAnyH_ready hr (by simp) (AllReadyH.cons (o := o9) rfl h AllReadyH.nil)
theorem tk10 (hs : Region.noSelect #[o0, o1, o2, o3, o4, o5, o6, o7, o8, o9, o10, o11, o12] = true) (hf : Region.free md #[o0, o1, o2, o3, o4, o5, o6, o7, o8, o9, o10, o11, o12] listed 10 = true) (hr : (Region.ready md #[o0, o1, o2, o3, o4, o5, o6, o7, o8, o9, o10, o11, o12] listed).contains 10 = true) (hQ : ∀ c a w, Q (.panic c) (a.put o10.dst v) w → Q (.panic c) a w) (hy : YieldsIf P #[o0, o1, o2, o3, o4, o5, o6, o7, o8, o9, o10, o11, o12] S o10 v a) (hS : S w) (h : wpAnyH P md #[o0, o1, o2, o3, o4, o5, o6, o7, o8, o9, o10, o11, o12] Q S fuel (listed.setIfInBounds 10 true) (a.put o10.dst v) w) : wpAnyH P md #[o0, o1, o2, o3, o4, o5, o6, o7, o8, o9, o10, o11, o12] Q S (fuel + 1) listed a w := wpAnyH_take (i := 10) (oi := o10) rfl hs hf hr hQ hy hS h
theorem tk11 (hs : Region.noSelect #[o0, o1, o2, o3, o4, o5, o6, o7, o8, o9, o10, o11, o12] = true) (hf : Region.free md #[o0, o1, o2, o3, o4, o5, o6, o7, o8, o9, o10, o11, o12] listed 11 = true) (hr : (Region.ready md #[o0, o1, o2, o3, o4, o5, o6, o7, o8, o9, o10, o11, o12] listed).contains 11 = true) (hQ : ∀ c a w, Q (.panic c) (a.put o11.dst v) w → Q (.panic c) a w) (hy : YieldsIf P #[o0, o1, o2, o3, o4, o5, o6, o7, o8, o9, o10, o11, o12] S o11 v a) (hS : S w) (h : wpAnyH P md #[o0, o1, o2, o3, o4, o5, o6, o7, o8, o9, o10, o11, o12] Q S fuel (listed.setIfInBounds 11 true) (a.put o11.dst v) w) : wpAnyH P md #[o0, o1, o2, o3, o4, o5, o6, o7, o8, o9, o10, o11, o12] Q S (fuel + 1) listed a w := wpAnyH_take (i := 11) (oi := o11) rfl hs hf hr hQ hy hS h
theorem ac11 (hr : Region.ready md #[o0, o1, o2, o3, o4, o5, o6, o7, o8, o9, o10, o11, o12] listed = [11]) (h : ∀ K' : Act → World → Prop, Shut (∀ a w, S w → (S w → wpAnyH P md #[o0, o1, o2, o3, o4, o5, o6, o7, o8, o9, o10, o11, o12] Q S fuel (listed.setIfInBounds 11 true) a w) → K' a w) → if Region.wanted o11 (yielded #[o0, o1, o2, o3, o4, o5, o6, o7, o8, o9, o10, o11, o12] a.tmps) = true then Oper.wp P o11 a w K' Q else K' (a.put o11.dst undef) w) : wpAnyH P md #[o0, o1, o2, o3, o4, o5, o6, o7, o8, o9, o10, o11, o12] Q S (fuel + 1) listed a w := wpAnyH_ready hr (by simp) (AllReadyH.cons (o := o11) rfl h AllReadyH.nil)
theorem tk12 (hs : Region.noSelect #[o0, o1, o2, o3, o4, o5, o6, o7, o8, o9, o10, o11, o12] = true) (hf : Region.free md #[o0, o1, o2, o3, o4, o5, o6, o7, o8, o9, o10, o11, o12] listed 12 = true) (hr : (Region.ready md #[o0, o1, o2, o3, o4, o5, o6, o7, o8, o9, o10, o11, o12] listed).contains 12 = true) (hQ : ∀ c a w, Q (.panic c) (a.put o12.dst v) w → Q (.panic c) a w) (hy : YieldsIf P #[o0, o1, o2, o3, o4, o5, o6, o7, o8, o9, o10, o11, o12] S o12 v a) (hS : S w) (h : wpAnyH P md #[o0, o1, o2, o3, o4, o5, o6, o7, o8, o9, o10, o11, o12] Q S fuel (listed.setIfInBounds 12 true) (a.put o12.dst v) w) : wpAnyH P md #[o0, o1, o2, o3, o4, o5, o6, o7, o8, o9, o10, o11, o12] Q S (fuel + 1) listed a w := wpAnyH_take (i := 12) (oi := o12) rfl hs hf hr hQ hy hS h
theorem ac12 (hr : Region.ready md #[o0, o1, o2, o3, o4, o5, o6, o7, o8, o9, o10, o11, o12] listed = [12]) (h : ∀ K' : Act → World → Prop, Shut (∀ a w, S w → (S w → wpAnyH P md #[o0, o1, o2, o3, o4, o5, o6, o7, o8, o9, o10, o11, o12] Q S fuel (listed.setIfInBounds 12 true) a w) → K' a w) → if Region.wanted o12 (yielded #[o0, o1, o2, o3, o4, o5, o6, o7, o8, o9, o10, o11, o12] a.tmps) = true then Oper.wp P o12 a w K' Q else K' (a.put o12.dst undef) w) : wpAnyH P md #[o0, o1, o2, o3, o4, o5, o6, o7, o8, o9, o10, o11, o12] Q S (fuel + 1) listed a w := wpAnyH_ready hr (by simp) (AllReadyH.cons (o := o12) rfl h AllReadyH.nil)
theorem ac4_7 (hr : Region.ready md #[o0, o1, o2, o3, o4, o5, o6, o7, o8, o9, o10, o11, o12] listed = [4, 7]) (h : ∀ K' : Act → World → Prop, Shut (∀ a w, S w → (S w → wpAnyH P md #[o0, o1, o2, o3, o4, o5, o6, o7, o8, o9, o10, o11, o12] Q S fuel (listed.setIfInBounds 4 true) a w) → K' a w) → if Region.wanted o4 (yielded #[o0, o1, o2, o3, o4, o5, o6, o7, o8, o9, o10, o11, o12] a.tmps) = true then Oper.wp P o4 a w K' Q else K' (a.put o4.dst undef) w) (h2 : ∀ K' : Act → World → Prop, Shut (∀ a w, S w → (S w → wpAnyH P md #[o0, o1, o2, o3, o4, o5, o6, o7, o8, o9, o10, o11, o12] Q S fuel (listed.setIfInBounds 7 true) a w) → K' a w) → if Region.wanted o7 (yielded #[o0, o1, o2, o3, o4, o5, o6, o7, o8, o9, o10, o11, o12] a.tmps) = true then Oper.wp P o7 a w K' Q else K' (a.put o7.dst undef) w) : wpAnyH P md #[o0, o1, o2, o3, o4, o5, o6, o7, o8, o9, o10, o11, o12] Q S (fuel + 1) listed a w := wpAnyH_ready hr (by simp) (AllReadyH.cons (o := o4) rfl h (AllReadyH.cons (o := o7) rfl h2 AllReadyH.nil))
theorem ac4_8 (hr : Region.ready md #[o0, o1, o2, o3, o4, o5, o6, o7, o8, o9, o10, o11, o12] listed = [4, 8]) (h : ∀ K' : Act → World → Prop, Shut (∀ a w, S w → (S w → wpAnyH P md #[o0, o1, o2, o3, o4, o5, o6, o7, o8, o9, o10, o11, o12] Q S fuel (listed.setIfInBounds 4 true) a w) → K' a w) → if Region.wanted o4 (yielded #[o0, o1, o2, o3, o4, o5, o6, o7, o8, o9, o10, o11, o12] a.tmps) = true then Oper.wp P o4 a w K' Q else K' (a.put o4.dst undef) w) (h2 : ∀ K' : Act → World → Prop, Shut (∀ a w, S w → (S w → wpAnyH P md #[o0, o1, o2, o3, o4, o5, o6, o7, o8, o9, o10, o11, o12] Q S fuel (listed.setIfInBounds 8 true) a w) → K' a w) → if Region.wanted o8 (yielded #[o0, o1, o2, o3, o4, o5, o6, o7, o8, o9, o10, o11, o12] a.tmps) = true then Oper.wp P o8 a w K' Q else K' (a.put o8.dst undef) w) : wpAnyH P md #[o0, o1, o2, o3, o4, o5, o6, o7, o8, o9, o10, o11, o12] Q S (fuel + 1) listed a w := wpAnyH_ready hr (by simp) (AllReadyH.cons (o := o4) rfl h (AllReadyH.cons (o := o8) rfl h2 AllReadyH.nil))
end
end Go.Proofs.YtphnnbbgcnilgaaDoor.LstR

namespace Go.Proofs.YtphnnbbgcnilgaaDoor.LstA
open Go.RowKit Go.Proofs.YtphnnbbgcnilgaaDoorW.PrintWords Go.Proofs.YtphnnbbgcnilgaaDoor.Common Go.Proofs.YtphnnbbgcnilgaaDoor.GEL Go.Proofs.YtphnnbbgcnilgaaDoor.LstT
set_option linter.unusedVariables false
set_option linter.unusedSimpArgs false
set_option maxRecDepth 1000000

abbrev PK : Kd Nat := Kd.scalar (fun g => .pointer (some ⟨g, 0, none⟩)) (fun _ => rfl)
/-- the writer in block q: its items, how deep the next one stands -/
structure LS (B : Nat) (w0 : World) (q : Nat) (gs : List Nat) (its : List (Nat × ByteArray)) (lev : Nat) (v : Value) (w : World) : Prop where
  hq : w.heap[q]? = some (.cells #[.int .i64 0, .string ⟨#[]⟩, .string ⟨#[]⟩, v, .int .i64 (lev : Int), .pointer none] 64 (0, 0))
  row : Kd.R PK 72 w B (fun _ => True) v gs
  el : ∀ (i g : Nat) (it : Nat × ByteArray), gs[i]? = some g → its[i]? = some it → w.heap[g]? = some (.cells #[.int .i64 (it.1 : Int), .string it.2] 74 (0, 0)) ∧ B ≤ g
  len : gs.length = its.length
  bel : Below B w0 w
  bq : B ≤ q
theorem LS.below {B : Nat} {w0 : World} {q : Nat} {gs : List Nat} {its : List (Nat × ByteArray)} {lev : Nat} {v : Value} {w w' : World} (h : LS B w0 q gs its lev v w) (hB : B ≤ w.heap.size) (hb : Below w.heap.size w w') : LS B w0 q gs its lev v w' :=
  ⟨(hb.block _ (Array.getElem?_eq_some_iff.1 h.hq).1).trans h.hq, Kd.R_below h.row hb, fun i g it h1 h2 => ⟨(hb.block _ (Array.getElem?_eq_some_iff.1 (h.el i g it h1 h2).1).1).trans (h.el i g it h1 h2).1, (h.el i g it h1 h2).2⟩, h.len, h.bel.trans (hb.mono hB), h.bq⟩
theorem analyze_c (q lev : Nat) (s : ByteArray) (hs : good s) (w : World) (X : Array Value) (hq : w.heap[q]? = some (.cells X 64 (0, 0))) (h4 : X[4]? = some (.int .i64 (lev : Int))) :
    Calls Tryd.prog 45 #[.pointer (some ⟨q, 0, none⟩), .iface 9 (.string s)] w fun e w' => ∃ g, e = .returned (.pointer (some ⟨g, 0, none⟩)) ∧ w'.heap[g]? = some (.cells #[.int .i64 (lev : Int), .string s] 74 (0, 0)) ∧ w.heap.size ≤ g ∧ Below w.heap.size w w' := by
  have H1 := fun W => Aside0.mk (text_c s W)
  have H2 := fun W => Aside0.mk (replL_c s ⟨#[32, 32, 32, 32]⟩ hs.1 (by show 4 ≤ 1000; omega) 9 (fun d hd => (hs.2 d hd).1) W)
  have H3 := fun W => Aside0.mk (crlf_c s hs W)
  have hlt := (Array.getElem?_eq_some_iff.1 hq).1
  have hc : w.cell? ⟨q, 4, none⟩ = some (.int .i64 (lev : Int)) := (cell_of_row _ _ _ _ _ _ hq).trans h4
  have HC : ∀ W, Below w.heap.size w W → W.cell? ⟨q, 4, none⟩ = some (.int .i64 (lev : Int)) := fun W hb => pw_cell_below hb hc
  clear hs hq h4
  go_enter Tryd.func45, Tryd.ntmps45
  go_wp2_with (first
    | (go_at_call 66; refine (H1 _).out.mono ?_; rintro e w1 ⟨rfl, hw⟩; replace hw := hw.symm; subst hw)
    | (go_at_call 53; refine (H2 _).out.mono ?_; rintro e w2 ⟨rfl, hb⟩; have HB2 := Aside0.mk hb; clear hb)
    | (go_at_call 67; refine (H3 _).out.mono ?_; rintro e w3 ⟨rfl, hb⟩; have HB3 := Aside0.mk (below_then HB2.out HB2.out.size hb); clear hb; have hc3 := HC _ HB3.out))
  go_ret
  exact ⟨w3.heap.size, rfl, heap_alloc_new w3 _, HB3.out.size, below_alloc HB3.out _⟩
end Go.Proofs.YtphnnbbgcnilgaaDoor.LstA

namespace Go.Proofs.YtphnnbbgcnilgaaDoor.LstB
open Go.RowKit Go.Proofs.YtphnnbbgcnilgaaDoorW.PrintWords Go.Proofs.YtphnnbbgcnilgaaDoor.Common Go.Proofs.YtphnnbbgcnilgaaDoor.GEL Go.Proofs.YtphnnbbgcnilgaaDoor.LstT Go.Proofs.YtphnnbbgcnilgaaDoor.LstR Go.Proofs.YtphnnbbgcnilgaaDoor.LstA
set_option linter.unusedVariables false
set_option linter.unusedSimpArgs false
set_option maxRecDepth 1000000

theorem info53 : (Tryd.prog.info? 72).map (fun i => (i.zero, i.size, i.bytes)) = some (some (.pointer none), 1, 8) := by kernel_rfl
theorem setCell_block (W : World) (p : Addr) (u : Value) (k : Nat) (h : k ≠ p.block) : (W.setCell p u).heap[k]? = W.heap[k]? := Below.heap_setCell W p u k h
theorem set_cells (W : World) (q j : Nat) (T : Array Value) (t : Nat) (u : Value) (h : W.heap[q]? = some (.cells T t (0, 0))) : (W.setCell ⟨q, j, none⟩ u).heap[q]? = some (.cells (T.setIfInBounds j u) t (0, 0)) := by
  simp [World.setCell, Array.getElem?_modify, h]
theorem typed_ne {W : World} {a b : Nat} {T U : Array Value} {t u : Nat} (h1 : W.heap[a]? = some (.cells T t (0, 0))) (h2 : W.heap[b]? = some (.cells U u (0, 0))) (ht : t ≠ u) : a ≠ b := by
  rintro rfl
  rw [h1] at h2
  injection h2 with h2
  injection h2 with _ h2
  exact ht h2
theorem pk_ne : ∀ x, x ∈ 72 :: PK.E → x ≠ 64 := by
  intro x hx
  rcases List.mem_cons.1 hx with rfl | hx
  · decide
  · cases hx
/-- the row of items has grown by one, and is put into the writer -/
theorem LS.app {B : Nat} {w0 : World} {q : Nat} {gs : List Nat} {its : List (Nat × ByteArray)} {lev : Nat} {v : Value} {w w1 w2 : World} {g : Nat} {s : ByteArray} {v1 : Value}
    (h : LS B w0 q gs its lev v w) (hB : B ≤ w.heap.size) (hb : Below w.heap.size w w1) (hg : w1.heap[g]? = some (.cells #[.int .i64 (lev : Int), .string s] 74 (0, 0))) (hgw : w.heap.size ≤ g)
    (hr : Kd.R PK 72 w2 B (fun _ => True) v1 (gs ++ [g])) (hgr : w1.grownBy w2 v.ownBlock) :
    w2.cell? ⟨q, 3, none⟩ = some v ∧ w2.frozen? ⟨q, 3, none⟩ = false ∧ LS B w0 q (gs ++ [g]) (its ++ [(lev, s)]) lev v1 (w2.setCell ⟨q, 3, none⟩ v1) := by
  have h1 := h.below hB hb
  have hty : ∀ k, v.ownBlock = some k → ∃ cells, w1.heap[k]? = some (.cells cells 72 (0, 0)) := fun k hk => by
    obtain ⟨inner, ho⟩ := Kd.R_own h1.row
    exact own_typed ho k hk
  have key : ∀ (k : Nat) (T : Array Value) (t : TypeId), w1.heap[k]? = some (.cells T t (0, 0)) → t ≠ 72 → w2.heap[k]? = some (.cells T t (0, 0)) := fun k T t hk ht => by
    refine (hgr.block k (Array.getElem?_eq_some_iff.1 hk).1 (fun e => ?_)).trans hk
    obtain ⟨cells, hc⟩ := hty k e.symm
    rw [hk] at hc
    injection hc with hc
    injection hc with _ hc
    exact ht hc
  have hq2 := key q _ _ h1.hq (by decide)
  refine ⟨(cell_of_row _ _ _ _ _ _ hq2).trans rfl, by simp [World.frozen?, hq2], ⟨set_cells w2 q 3 _ _ v1 hq2, Kd.R_set hr hq2 pk_ne 3 v1, fun i k it h3 h4 => ?_, by simp [h.len], ?_, h.bq⟩⟩
  · have hk : w1.heap[k]? = some (.cells #[.int .i64 (it.1 : Int), .string it.2] 74 (0, 0)) ∧ B ≤ k := by
      rcases Nat.lt_or_ge i gs.length with hi | hi
      · rw [List.getElem?_append_left hi] at h3
        rw [List.getElem?_append_left (by rw [← h.len]; exact hi)] at h4
        exact h1.el i k it h3 h4
      · rw [List.getElem?_append_right hi] at h3
        rw [List.getElem?_append_right (by rw [← h.len]; exact hi), ← h.len] at h4
        have e0 : i - gs.length = 0 := by
          have := (List.getElem?_eq_some_iff.1 h3).1
          simp at this
          omega
        rw [e0] at h3 h4
        simp at h3 h4
        subst h3 h4
        exact ⟨hg, by omega⟩
    have hk2 := key k _ _ hk.1 (by decide)
    exact ⟨(setCell_block w2 _ v1 k (typed_ne hk2 hq2 (by decide))).trans hk2, hk.2⟩
  · refine (h1.bel.grown hgr (Nat.le_trans hB hb.size) (fun k hk => ?_)).setCell h.bq _
    obtain ⟨inner, ho⟩ := Kd.R_own h1.row
    exact own_base ho k hk
theorem append_c {B : Nat} {w0 : World} {q : Nat} {gs : List Nat} {its : List (Nat × ByteArray)} {lev : Nat} {v : Value} {w : World} (h : LS B w0 q gs its lev v w) (hB : B ≤ w.heap.size) (s : ByteArray) (hs : good s) (hl : gs.length ≤ 100000) :
    Calls Tryd.prog 30 #[.pointer (some ⟨q, 0, none⟩), .iface 9 (.string s)] w fun e w' => ∃ u, e = .returned u ∧ ∃ g v1, LS B w0 q (gs ++ [g]) (its ++ [(lev, s)]) lev v1 w' := by
  have hcv : w.drew.cell? ⟨q, 3, none⟩ = some v := (cell_of_row _ _ _ _ _ _ h.hq).trans rfl
  have HC := fun (W : World) (hb : Below w.heap.size w W) => Aside0.mk (analyze_c q lev s hs W _ (h.below hB hb).hq rfl)
  have HL := fun (W : World) (hb : Below w.drew.heap.size w.drew W) => Aside0.mk (h.below hB ((below_drew1 (Below.refl _ _)).trans hb))
  have HZ := fun (W : World) (hb : Below w.drew.heap.size w.drew W) => (show w.heap.size ≤ W.heap.size from hb.size)
  have HDB := fun (W : World) (hb : Below w.drew.heap.size w.drew W) => (show Below w.heap.size w W from (below_drew1 (Below.refl _ _)).trans hb)
  have HDW := fun (g : Nat) (hg : w.drew.heap.size ≤ g) => (show w.heap.size ≤ g from hg)
  have HLS := Aside0.mk h
  have HBs := Aside0.mk hB
  have HN := Aside0.mk (show (gs.length + 1) * 8 ≤ 140737488355328 by omega)
  clear h hs hB hl
  go_enter Tryd.func30, Tryd.ntmps30
  go_wp2
  refine wp_region_held_drew (S := fun w' => True) (by kernel_rfl) trivial (fun hHeld => ?_)
  refine tk0 (v := ?_) (by kernel_rfl) (by kernel_rfl) (by kernel_rfl) (fun _ _ _ h => h) (Or.inl ⟨by rfl, ?_⟩) hHeld ?_
  rotate_left
  · (intro w hSw; (try dsimp only at hSw); go_simp; try with_reducible rfl)
  try simp only [Act.put, List.setIfInBounds_toArray, List.set_cons_zero, List.set_cons_succ]
  refine tk1 (v := ?_) (by kernel_rfl) (by kernel_rfl) (by kernel_rfl) (fun _ _ _ h => h) (Or.inl ⟨by rfl, ?_⟩) hHeld ?_
  rotate_left
  · (intro w hSw; (try dsimp only at hSw); go_simp; try with_reducible rfl)
  try simp only [Act.put, List.setIfInBounds_toArray, List.set_cons_zero, List.set_cons_succ]
  refine tk2 (v := ?_) (by kernel_rfl) (by kernel_rfl) (by kernel_rfl) (fun _ _ _ h => h) (Or.inl ⟨by rfl, ?_⟩) hHeld ?_
  rotate_left
  · (intro w hSw; (try dsimp only at hSw); go_simp; try with_reducible rfl)
  try simp only [Act.put, List.setIfInBounds_toArray, List.set_cons_zero, List.set_cons_succ]
  refine tk3 (v := ?_) (by kernel_rfl) (by kernel_rfl) (by kernel_rfl) (fun _ _ _ h => h) (Or.inl ⟨by rfl, ?_⟩) hHeld ?_
  rotate_left
  · (intro w hSw; (try dsimp only at hSw); go_simp; try with_reducible rfl)
  try simp only [Act.put, List.setIfInBounds_toArray, List.set_cons_zero, List.set_cons_succ]
  refine tk5 (v := ?_) (by kernel_rfl) (by kernel_rfl) (by kernel_rfl) (fun _ _ _ h => h) (Or.inl ⟨by rfl, ?_⟩) hHeld ?_
  rotate_left
  · (intro w hSw; (try dsimp only at hSw); go_simp; try with_reducible rfl)
  try simp only [Act.put, List.setIfInBounds_toArray, List.set_cons_zero, List.set_cons_succ]
  refine tk6 (v := ?_) (by kernel_rfl) (by kernel_rfl) (by kernel_rfl) (fun _ _ _ h => h) (Or.inl ⟨by rfl, ?_⟩) hHeld ?_
  rotate_left
  · (intro w hSw; (try dsimp only at hSw); go_simp; try with_reducible rfl)
  try simp only [Act.put, List.setIfInBounds_toArray, List.set_cons_zero, List.set_cons_succ]
  refine ac4_7 (by kernel_rfl) (fun K hK => ?_) (fun K hK => ?_)
  · go_simp
    refine hK.out _ _ trivial (fun hHeld => ?_)
    clear hK K
    try simp only [Act.put, List.setIfInBounds_toArray, List.set_cons_zero, List.set_cons_succ]
    refine ac7 (by kernel_rfl) (fun K hK => ?_)
    go_simp
    (go_at_call 45; refine (HC _ (below_drew1 (Below.refl _ _))).out.mono ?_; rintro e w1 ⟨g, rfl, hg, hgw, hb⟩; have hc1 := pw_cell_below hb hcv; have HG1 := Aside0.mk hg; have HB1 := Aside0.mk hb; have HW1 := Aside0.mk hgw; clear hg hb hgw)
    try go_wp2_with fail
    refine hK.out _ _ trivial (fun hHeld => ?_)
    clear hK K
    try simp only [Act.put, List.setIfInBounds_toArray, List.set_cons_zero, List.set_cons_succ]
    refine ac8 (by kernel_rfl) (fun K hK => ?_)
    go_simp
    refine hK.out _ _ trivial (fun hHeld => ?_)
    clear hK K
    try simp only [Act.put, List.setIfInBounds_toArray, List.set_cons_zero, List.set_cons_succ]
    refine ac9 (by kernel_rfl) (fun K hK => ?_)
    refine Kd.R_append_step PK (w0 := w0) B (by rfl) (.tmp 8) (.tmp 12) 61 72 (.pointer none) 8 rfl Tryd.underlying61 info53 rfl (by decide) (by decide) v gs g [.pointer (some ⟨g, 0, none⟩)] (fun _ => True) (fun _ => False) rfl rfl rfl (fun _ hk => hk.elim) (fun _ _ => trivial) (HL _ HB1.out).out.row (HL _ HB1.out).out.bel (Nat.le_trans HBs.out (HZ _ HB1.out)) HN.out ?_
    intro v1 w2 ho hb hg hat
    obtain ⟨A1, c1, rfl⟩ := Kd.R_slice ho
    have hx := LS.app HLS.out HBs.out (HDB _ HB1.out) HG1.out (HDW _ HW1.out) ho hg
    have hc2 := hx.1
    have hf2 := hx.2.1
    have HX := Aside0.mk hx.2.2
    clear ho hb hg hat hx
    refine hK.out _ _ trivial (fun hHeld => ?_)
    clear hK K
    try simp only [Act.put, List.setIfInBounds_toArray, List.set_cons_zero, List.set_cons_succ]
    refine tk10 (v := ?_) (by kernel_rfl) (by kernel_rfl) (by kernel_rfl) (fun _ _ _ h => h) (Or.inl ⟨by rfl, ?_⟩) hHeld ?_
    rotate_left
    · (intro w hSw; (try dsimp only at hSw); go_simp; try with_reducible rfl)
    try simp only [Act.put, List.setIfInBounds_toArray, List.set_cons_zero, List.set_cons_succ]
    refine tk11 (v := ?_) (by kernel_rfl) (by kernel_rfl) (by kernel_rfl) (fun _ _ _ h => h) (Or.inl ⟨by rfl, ?_⟩) hHeld ?_
    rotate_left
    · (intro w hSw; (try dsimp only at hSw); go_simp; try with_reducible rfl)
    try simp only [Act.put, List.setIfInBounds_toArray, List.set_cons_zero, List.set_cons_succ]
    refine ac12 (by kernel_rfl) (fun K hK => ?_)
    go_simp
    refine hK.out _ _ trivial (fun hHeld => ?_)
    clear hK K
    refine wpAnyH_done (by kernel_rfl) ?_ _
    go_end0
    have hx := HX.out
    rw [show (gs ++ [g]).length = gs.length + 1 by simp] at hx
    exact ⟨_, rfl, g, _, hx⟩
  · go_simp
    (go_at_call 45; refine (HC _ (below_drew1 (Below.refl _ _))).out.mono ?_; rintro e w1 ⟨g, rfl, hg, hgw, hb⟩; have hc1 := pw_cell_below hb hcv; have HG1 := Aside0.mk hg; have HB1 := Aside0.mk hb; have HW1 := Aside0.mk hgw; clear hg hb hgw)
    try go_wp2_with fail
    refine hK.out _ _ trivial (fun hHeld => ?_)
    clear hK K
    try simp only [Act.put, List.setIfInBounds_toArray, List.set_cons_zero, List.set_cons_succ]
    refine ac4_8 (by kernel_rfl) (fun K hK => ?_) (fun K hK => ?_)
    · go_simp
      refine hK.out _ _ trivial (fun hHeld => ?_)
      clear hK K
      try simp only [Act.put, List.setIfInBounds_toArray, List.set_cons_zero, List.set_cons_succ]
      refine ac8 (by kernel_rfl) (fun K hK => ?_)
      go_simp
      refine hK.out _ _ trivial (fun hHeld => ?_)
      clear hK K
      try simp only [Act.put, List.setIfInBounds_toArray, List.set_cons_zero, List.set_cons_succ]
      refine ac9 (by kernel_rfl) (fun K hK => ?_)
      refine Kd.R_append_step PK (w0 := w0) B (by rfl) (.tmp 8) (.tmp 12) 61 72 (.pointer none) 8 rfl Tryd.underlying61 info53 rfl (by decide) (by decide) v gs g [.pointer (some ⟨g, 0, none⟩)] (fun _ => True) (fun _ => False) rfl rfl rfl (fun _ hk => hk.elim) (fun _ _ => trivial) (HL _ HB1.out).out.row (HL _ HB1.out).out.bel (Nat.le_trans HBs.out (HZ _ HB1.out)) HN.out ?_
      intro v1 w2 ho hb hg hat
      obtain ⟨A1, c1, rfl⟩ := Kd.R_slice ho
      have hx := LS.app HLS.out HBs.out (HDB _ HB1.out) HG1.out (HDW _ HW1.out) ho hg
      have hc2 := hx.1
      have hf2 := hx.2.1
      have HX := Aside0.mk hx.2.2
      clear ho hb hg hat hx
      refine hK.out _ _ trivial (fun hHeld => ?_)
      clear hK K
      try simp only [Act.put, List.setIfInBounds_toArray, List.set_cons_zero, List.set_cons_succ]
      refine tk10 (v := ?_) (by kernel_rfl) (by kernel_rfl) (by kernel_rfl) (fun _ _ _ h => h) (Or.inl ⟨by rfl, ?_⟩) hHeld ?_
      rotate_left
      · (intro w hSw; (try dsimp only at hSw); go_simp; try with_reducible rfl)
      try simp only [Act.put, List.setIfInBounds_toArray, List.set_cons_zero, List.set_cons_succ]
      refine tk11 (v := ?_) (by kernel_rfl) (by kernel_rfl) (by kernel_rfl) (fun _ _ _ h => h) (Or.inl ⟨by rfl, ?_⟩) hHeld ?_
      rotate_left
      · (intro w hSw; (try dsimp only at hSw); go_simp; try with_reducible rfl)
      try simp only [Act.put, List.setIfInBounds_toArray, List.set_cons_zero, List.set_cons_succ]
      refine ac12 (by kernel_rfl) (fun K hK => ?_)
      go_simp
      refine hK.out _ _ trivial (fun hHeld => ?_)
      clear hK K
      refine wpAnyH_done (by kernel_rfl) ?_ _
      go_end0
      have hx := HX.out
      rw [show (gs ++ [g]).length = gs.length + 1 by simp] at hx
      exact ⟨_, rfl, g, _, hx⟩
    · go_simp
      refine hK.out _ _ trivial (fun hHeld => ?_)
      clear hK K
      try simp only [Act.put, List.setIfInBounds_toArray, List.set_cons_zero, List.set_cons_succ]
      have hc8 := fun o => pw_cell_below (below_alloc (Below.refl w1.heap.size w1) o) hc1
      refine ac4 (by kernel_rfl) (fun K hK => ?_)
      go_simp
      refine hK.out _ _ trivial (fun hHeld => ?_)
      clear hK K
      try simp only [Act.put, List.setIfInBounds_toArray, List.set_cons_zero, List.set_cons_succ]
      refine ac9 (by kernel_rfl) (fun K hK => ?_)
      refine Kd.R_append_step PK (w0 := w0) B (by rfl) (.tmp 8) (.tmp 12) 61 72 (.pointer none) 8 rfl Tryd.underlying61 info53 rfl (by decide) (by decide) v gs g [.pointer (some ⟨g, 0, none⟩)] (fun _ => True) (fun _ => False) rfl rfl rfl (fun _ hk => hk.elim) (fun _ _ => trivial) (HL _ HB1.out).out.row (HL _ HB1.out).out.bel (Nat.le_trans HBs.out (HZ _ HB1.out)) HN.out ?_
      intro v1 w2 ho hb hg hat
      obtain ⟨A1, c1, rfl⟩ := Kd.R_slice ho
      have hx := LS.app HLS.out HBs.out (HDB _ HB1.out) HG1.out (HDW _ HW1.out) ho hg
      have hc2 := hx.1
      have hf2 := hx.2.1
      have HX := Aside0.mk hx.2.2
      clear ho hb hg hat hx
      refine hK.out _ _ trivial (fun hHeld => ?_)
      clear hK K
      try simp only [Act.put, List.setIfInBounds_toArray, List.set_cons_zero, List.set_cons_succ]
      refine tk10 (v := ?_) (by kernel_rfl) (by kernel_rfl) (by kernel_rfl) (fun _ _ _ h => h) (Or.inl ⟨by rfl, ?_⟩) hHeld ?_
      rotate_left
      · (intro w hSw; (try dsimp only at hSw); go_simp; try with_reducible rfl)
      try simp only [Act.put, List.setIfInBounds_toArray, List.set_cons_zero, List.set_cons_succ]
      refine tk11 (v := ?_) (by kernel_rfl) (by kernel_rfl) (by kernel_rfl) (fun _ _ _ h => h) (Or.inl ⟨by rfl, ?_⟩) hHeld ?_
      rotate_left
      · (intro w hSw; (try dsimp only at hSw); go_simp; try with_reducible rfl)
      try simp only [Act.put, List.setIfInBounds_toArray, List.set_cons_zero, List.set_cons_succ]
      refine ac12 (by kernel_rfl) (fun K hK => ?_)
      go_simp
      refine hK.out _ _ trivial (fun hHeld => ?_)
      clear hK K
      refine wpAnyH_done (by kernel_rfl) ?_ _
      go_end0
      have hx := HX.out
      rw [show (gs ++ [g]).length = gs.length + 1 by simp] at hx
      exact ⟨_, rfl, g, _, hx⟩
end Go.Proofs.YtphnnbbgcnilgaaDoor.LstB

namespace Go.Proofs.YtphnnbbgcnilgaaDoor.LstC
open Go.RowKit Go.Proofs.YtphnnbbgcnilgaaDoorW.PrintWords Go.Proofs.YtphnnbbgcnilgaaDoor.Common Go.Proofs.YtphnnbbgcnilgaaDoor.GEL Go.Proofs.YtphnnbbgcnilgaaDoor.LstT Go.Proofs.YtphnnbbgcnilgaaDoor.LstA Go.Proofs.YtphnnbbgcnilgaaDoor.LstB
set_option linter.unusedVariables false
set_option linter.unusedSimpArgs false
set_option maxRecDepth 1000000

theorem _root_.Go.Proofs.YtphnnbbgcnilgaaDoor.LstA.LS.setLev {B : Nat} {w0 : World} {q : Nat} {gs : List Nat} {its : List (Nat × ByteArray)} {lev lev1 : Nat} {v : Value} {w : World} (h : LS B w0 q gs its lev v w) (u : Value) (hu : u = .int .i64 (lev1 : Int)) : LS B w0 q gs its lev1 v (w.setCell ⟨q, 4, none⟩ u) := by
  subst hu
  refine ⟨set_cells w q 4 _ _ _ h.hq, Kd.R_set h.row h.hq pk_ne 4 _, fun i k it h3 h4 => ?_, h.len, h.bel.setCell h.bq _, h.bq⟩
  have hk := h.el i k it h3 h4
  exact ⟨(setCell_block w _ _ k (typed_ne hk.1 h.hq (by decide))).trans hk.1, hk.2⟩
theorem _root_.Go.Proofs.YtphnnbbgcnilgaaDoor.LstA.LS.cells {B : Nat} {w0 : World} {q : Nat} {gs : List Nat} {its : List (Nat × ByteArray)} {lev : Nat} {v : Value} {w : World} (h : LS B w0 q gs its lev v w) :
    w.cell? ⟨q, 3, none⟩ = some v ∧ w.cell? ⟨q, 4, none⟩ = some (.int .i64 (lev : Int)) ∧ w.cell? ⟨q, 5, none⟩ = some (.pointer none) ∧ w.cell? ⟨q, 0, none⟩ = some (.int .i64 0) ∧ ∀ i, w.frozen? ⟨q, i, none⟩ = false :=
  ⟨(cell_of_row _ _ _ _ _ _ h.hq).trans rfl, (cell_of_row _ _ _ _ _ _ h.hq).trans rfl, (cell_of_row _ _ _ _ _ _ h.hq).trans rfl, (cell_of_row _ _ _ _ _ _ h.hq).trans rfl, fun i => by simp [World.frozen?, h.hq]⟩
/-- item i, as the writer's row leads to it -/
theorem _root_.Go.Proofs.YtphnnbbgcnilgaaDoor.LstA.LS.item {B : Nat} {w0 : World} {q : Nat} {gs : List Nat} {its : List (Nat × ByteArray)} {lev : Nat} {v : Value} {w : World} (h : LS B w0 q gs its lev v w) (i : Nat) (hi : i < its.length) :
    ∃ ad g c, v = .slice (some ad) gs.length c ∧ gs[i]? = some g ∧ w.cell? (ad.add i) = some (.pointer (some ⟨g, 0, none⟩)) ∧ w.cell? ⟨g, 0, none⟩ = some (.int .i64 ((its[i]).1 : Int)) ∧ w.cell? ⟨g, 1, none⟩ = some (.string (its[i]).2) ∧ B ≤ g := by
  obtain ⟨A, c, rfl, _, hC⟩ := Kd.R_reads h.row
  have hg : i < gs.length := by rw [h.len]; exact hi
  obtain ⟨ad, c1, rfl, _, hK, hc⟩ := Kd.C_get hC (0 : Nat) (i : Int) (by omega) (by omega)
  have hK2 : c1 = [.pointer (some ⟨gs.getD (i : Int).toNat 0, 0, none⟩)] := hK
  subst hK2
  have h1 := hc 0 _ rfl
  rw [Int.toNat_natCast, show PK.sz = 1 from rfl, Nat.mul_one, Nat.add_zero] at h1
  have e : gs.getD i 0 = gs[i] := by simp [List.getD_eq_getElem?_getD, List.getElem?_eq_getElem hg]
  rw [e] at h1
  have hk := h.el i gs[i] its[i] (List.getElem?_eq_getElem hg) (List.getElem?_eq_getElem hi)
  exact ⟨ad, gs[i], c, rfl, List.getElem?_eq_getElem hg, h1, (cell_of_row _ _ _ _ _ _ hk.1).trans rfl, (cell_of_row _ _ _ _ _ _ hk.1).trans rfl, hk.2⟩
def indentF (its : List (Nat × ByteArray)) (lev : Nat) : Nat := match its.getLast? with
  | none => lev
  | some x => if lev > x.1 then lev else lev + 1
theorem unindent_c {B : Nat} {w0 : World} {q : Nat} {gs : List Nat} {its : List (Nat × ByteArray)} {lev : Nat} {v : Value} {w : World} (h : LS B w0 q gs its lev v w) (hl : lev ≤ 100000) :
    Calls Tryd.prog 33 #[.pointer (some ⟨q, 0, none⟩)] w fun e w' => ∃ u, e = .returned u ∧ LS B w0 q gs its (lev - 1) v w' := by
  obtain ⟨h3, h4, h5, h0, hf⟩ := h.cells
  have hf4 := hf 4
  have HL := Aside0.mk h
  clear h
  by_cases hz : 0 < lev
  · have hd : decide ((lev : Int) > 0) = true := decide_eq_true (by omega)
    have hw : wrap64 ((lev : Int) - 1) = (((lev - 1 : Nat)) : Int) := by rw [w64 _ (by omega) (by omega)]; omega
    go_enter Tryd.func33, Tryd.ntmps33
    go_wp2
    go_end0
    exact ⟨_, rfl, HL.out.setLev _ (congrArg (Value.int .i64) (show (lev : Int) - 1 = ((lev - 1 : Nat) : Int) by omega))⟩
  · obtain rfl : lev = 0 := by omega
    go_enter Tryd.func33, Tryd.ntmps33
    go_wp2
    go_end0
    exact ⟨_, rfl, HL.out⟩
theorem reset_c {B : Nat} {w0 : World} {q : Nat} {gs : List Nat} {its : List (Nat × ByteArray)} {lev : Nat} {v : Value} {w : World} (h : LS B w0 q gs its lev v w) (hB : B ≤ w.heap.size) :
    Calls Tryd.prog 35 #[.pointer (some ⟨q, 0, none⟩)] w fun e w' => ∃ u, e = .returned u ∧ ∃ v1, LS B w0 q [] [] 0 v1 w' := by
  obtain ⟨h3, h4, h5, h0, hf⟩ := h.cells
  have hf0 := hf 0
  obtain ⟨V, hV⟩ : ∃ V, V = (w.setCell ⟨q, 0, none⟩ (.int .i64 0)).alloc (.cells #[] 72) := ⟨_, rfl⟩
  have hqs := set_cells w q 0 _ _ (.int .i64 0) h.hq
  have hqV : V.heap[q]? = some (.cells #[.int .i64 0, .string ⟨#[]⟩, .string ⟨#[]⟩, v, .int .i64 (lev : Int), .pointer none] 64 (0, 0)) := by
    rw [hV]
    exact ((below_alloc (Below.refl (w.setCell ⟨q, 0, none⟩ (.int .i64 0)).heap.size _) _).block q (Array.getElem?_eq_some_iff.1 hqs).1).trans hqs
  have hnew : V.heap[w.heap.size]? = some (.cells #[] 72 (0, 0)) := by
    rw [hV]
    have := heap_alloc_new (w.setCell ⟨q, 0, none⟩ (.int .i64 0)) (.cells #[] 72)
    rwa [World.size_setCell] at this
  have v3 : V.cell? ⟨q, 3, none⟩ = some v := (cell_of_row _ _ _ _ _ _ hqV).trans rfl
  have v4 : V.cell? ⟨q, 4, none⟩ = some (.int .i64 (lev : Int)) := (cell_of_row _ _ _ _ _ _ hqV).trans rfl
  have v5 : V.cell? ⟨q, 5, none⟩ = some (.pointer none) := (cell_of_row _ _ _ _ _ _ hqV).trans rfl
  have vf : ∀ i, V.frozen? ⟨q, i, none⟩ = false := fun i => by simp [World.frozen?, hqV]
  have vf3 := vf 3
  have vf4 := vf 4
  have vf5 := vf 5
  have hbV : Below B w0 V := by
    rw [hV]
    exact (h.bel.setCell h.bq _).alloc (by rw [World.size_setCell]; exact hB) _
  have hbq := h.bq
  have HV := Aside0.mk hV
  have HR : Aside0 (Kd.R PK 72 V B (fun _ => True) (.slice (some ⟨w.heap.size, 0, none⟩) 0 0) []) := by
    refine Aside0.mk ?_
    rw [hV]
    have := Kd.R_of_own (enc := fun g : Nat => Value.pointer (some ⟨g, 0, none⟩)) (h1 := fun _ => rfl) (ok := fun _ => True) (xs := []) (World.ownsRow_lit (base := B) (e := 72) (size := 1) (w.setCell ⟨q, 0, none⟩ (.int .i64 0)) #[] 0 (by rw [World.size_setCell]; exact hB) (by unfold maxLen; omega) rfl) (fun _ _ => trivial)
    rw [World.size_setCell] at this
    exact this
  clear h hV hf h3 h4 h5
  have hmk : ∀ W : World, (Instr.makeSlice 61 (.int .i64 0) (.int .i64 0)).run Tryd.prog W = .ok (.slice (some ⟨W.heap.size, 0, none⟩) 0 0) (W.alloc (.cells #[] 72)) := fun W => by
    obtain ⟨i0, hi, hzz⟩ := Option.map_eq_some_iff.1 info53
    simp only [Prod.mk.injEq] at hzz
    have := run_make (P := Tryd.prog) W 61 72 i0 (.pointer none) Tryd.underlying61 hi hzz.1 .i64 .i64 0 0 (by omega) (by omega) (by omega) (by omega)
    have e : madeCells (Value.pointer none).cells ((0 : Int).toNat * i0.size) = #[] := Array.eq_empty_of_size_eq_zero (by rw [size_madeCells]; simp)
    rw [e] at this
    exact this
  have HMK := Aside0.mk hmk
  clear hmk
  go_enter Tryd.func35, Tryd.ntmps35
  go_wp2
  rw [HMK.out, World.size_setCell, ← HV.out]
  go_wp2
  go_end0
  have e1 := set_cells V q 3 _ _ (.slice (some ⟨w.heap.size, 0, none⟩) 0 0) hqV
  have r1 := Kd.R_set HR.out hqV pk_ne 3 (.slice (some ⟨w.heap.size, 0, none⟩) 0 0)
  have e2 := set_cells _ q 4 _ _ (.int .i64 0) e1
  have r2 := Kd.R_set r1 e1 pk_ne 4 (.int .i64 0)
  have e3 := set_cells _ q 5 _ _ (.pointer none) e2
  have r3 := Kd.R_set r2 e2 pk_ne 5 (.pointer none)
  exact ⟨_, rfl, _, e3, r3, fun i g it h1 h2 => by simp at h1, rfl, ((hbV.setCell hbq _).setCell hbq _).setCell hbq _, hbq⟩
theorem indent_c {B : Nat} {w0 : World} {q : Nat} {gs : List Nat} {its : List (Nat × ByteArray)} {lev : Nat} {v : Value} {w : World} (h : LS B w0 q gs its lev v w) (hB : B ≤ w.heap.size) (hl : lev ≤ 100000) (hn : its.length ≤ 100000) :
    Calls Tryd.prog 32 #[.pointer (some ⟨q, 0, none⟩)] w fun e w' => ∃ u, e = .returned u ∧ LS B w0 q gs its (indentF its lev) v w' := by
  obtain ⟨h3, h4, h5, h0, hf⟩ := h.cells
  have hf4 := hf 4
  by_cases hz : its = []
  · subst hz
    have hg : gs = [] := List.eq_nil_of_length_eq_zero h.len
    subst hg
    obtain ⟨A, c, rfl, _⟩ := Kd.R_reads h.row
    have HL := Aside0.mk h
    clear h
    go_enter Tryd.func32, Tryd.ntmps32
    go_wp2
    go_end0
    exact ⟨_, rfl, HL.out⟩
  · have hp := List.length_pos_iff.2 hz
    obtain ⟨ad, g, c, rfl, hgi, hc0, hc1, hc2, hgB⟩ := h.item (its.length - 1) (by omega)
    have hlen := h.len
    have HL := Aside0.mk h
    clear h
    have hlast : its.getLast? = some (its[its.length - 1]'(by omega)) := by rw [List.getLast?_eq_getElem?, List.getElem?_eq_getElem (by omega)]
    have hx : indentF its lev = if lev > (its[its.length - 1]'(by omega)).1 then lev else lev + 1 := by unfold indentF; rw [hlast]
    rw [hx]
    clear hx hlast
    generalize (its[its.length - 1]'(by omega)).1 = m at *
    have hn0 : decide ((gs.length : Int) = 0) = false := decide_eq_false (by omega)
    have hw1 : wrap64 ((gs.length : Int) - 1) = (((its.length - 1 : Nat)) : Int) := by rw [w64 _ (by omega) (by omega)]; omega
    have hw2 : wrap64 ((lev : Int) + 1) = (((lev + 1 : Nat)) : Int) := by rw [w64 _ (by omega) (by omega)]; omega
    by_cases hm : lev > m
    · have hd : decide ((lev : Int) > (m : Int)) = true := decide_eq_true (by omega)
      rw [if_pos hm]
      go_enter Tryd.func32, Tryd.ntmps32
      go_wp2
      go_quiet (fail)
      go_wp2
      go_end0
      exact ⟨_, rfl, HL.out.below hB (pw_below_drewN (Below.refl _ _) _)⟩
    · have hd : decide ((lev : Int) > (m : Int)) = false := decide_eq_false (by omega)
      rw [if_neg hm]
      go_enter Tryd.func32, Tryd.ntmps32
      go_wp2
      go_quiet (fail)
      go_wp2
      go_end0
      exact ⟨_, rfl, (HL.out.below hB (pw_below_drewN (Below.refl _ _) nq)).setLev _ (congrArg (Value.int .i64) (show (lev : Int) + 1 = ((lev + 1 : Nat) : Int) by omega))⟩
end Go.Proofs.YtphnnbbgcnilgaaDoor.LstC
