/-
  Proved: what initForRender of a list does. Conditions: a style's texts of at most 1000 bytes, levels and texts of at most 1000, at most 100000 items.
-/
import Derived.Test.YtphnnbbgcnilgaaDoorLstC
import Derived.Deep.RegionHeld3
import Derived.Test.YtphnnbbgcnilgaaDoorLstI
namespace Go.Proofs.YtphnnbbgcnilgaaDoor.LstR13
open Go Go.RowKit
set_option linter.unusedVariables false
section
variable {P : Program} {md : Region.Mode} {o0 o1 o2 o3 o4 o5 o6 o7 o8 o9 o10 o11 o12 : Oper} {Q : Exit → Act → World → Prop} {S : World → Prop} {fuel : Nat} {listed : Array Bool} {a : Act} {w : World} {v : Value}
theorem tk0 (hs : Region.noSelect #[o0, o1, o2, o3, o4, o5, o6, o7, o8, o9, o10, o11, o12] = true) (hf : Region.free md #[o0, o1, o2, o3, o4, o5, o6, o7, o8, o9, o10, o11, o12] listed 0 = true) (hr : (Region.ready md #[o0, o1, o2, o3, o4, o5, o6, o7, o8, o9, o10, o11, o12] listed).contains 0 = true) (hQ : ∀ c a w, Q (.panic c) (a.put o0.dst v) w → Q (.panic c) a w) (hy : YieldsIf P #[o0, o1, o2, o3, o4, o5, o6, o7, o8, o9, o10, o11, o12] S o0 v a) (hS : S w) (h : wpAnyH P md #[o0, o1, o2, o3, o4, o5, o6, o7, o8, o9, o10, o11, o12] Q S fuel (listed.setIfInBounds 0 true) (a.put o0.dst v) w) : wpAnyH P md #[o0, o1, o2, o3, o4, o5, o6, o7, o8, o9, o10, o11, o12] Q S (fuel + 1) listed a w := wpAnyH_take (i := 0) (oi := o0) rfl hs hf hr hQ hy hS h
theorem tk1 (hs : Region.noSelect #[o0, o1, o2, o3, o4, o5, o6, o7, o8, o9, o10, o11, o12] = true) (hf : Region.free md #[o0, o1, o2, o3, o4, o5, o6, o7, o8, o9, o10, o11, o12] listed 1 = true) (hr : (Region.ready md #[o0, o1, o2, o3, o4, o5, o6, o7, o8, o9, o10, o11, o12] listed).contains 1 = true) (hQ : ∀ c a w, Q (.panic c) (a.put o1.dst v) w → Q (.panic c) a w) (hy : YieldsIf P #[o0, o1, o2, o3, o4, o5, o6, o7, o8, o9, o10, o11, o12] S o1 v a) (hS : S w) (h : wpAnyH P md #[o0, o1, o2, o3, o4, o5, o6, o7, o8, o9, o10, o11, o12] Q S fuel (listed.setIfInBounds 1 true) (a.put o1.dst v) w) : wpAnyH P md #[o0, o1, o2, o3, o4, o5, o6, o7, o8, o9, o10, o11, o12] Q S (fuel + 1) listed a w := wpAnyH_take (i := 1) (oi := o1) rfl hs hf hr hQ hy hS h
theorem tk2 (hs : Region.noSelect #[o0, o1, o2, o3, o4, o5, o6, o7, o8, o9, o10, o11, o12] = true) (hf : Region.free md #[o0, o1, o2, o3, o4, o5, o6, o7, o8, o9, o10, o11, o12] listed 2 = true) (hr : (Region.ready md #[o0, o1, o2, o3, o4, o5, o6, o7, o8, o9, o10, o11, o12] listed).contains 2 = true) (hQ : ∀ c a w, Q (.panic c) (a.put o2.dst v) w → Q (.panic c) a w) (hy : YieldsIf P #[o0, o1, o2, o3, o4, o5, o6, o7, o8, o9, o10, o11, o12] S o2 v a) (hS : S w) (h : wpAnyH P md #[o0, o1, o2, o3, o4, o5, o6, o7, o8, o9, o10, o11, o12] Q S fuel (listed.setIfInBounds 2 true) (a.put o2.dst v) w) : wpAnyH P md #[o0, o1, o2, o3, o4, o5, o6, o7, o8, o9, o10, o11, o12] Q S (fuel + 1) listed a w := wpAnyH_take (i := 2) (oi := o2) rfl hs hf hr hQ hy hS h
theorem tk3 (hs : Region.noSelect #[o0, o1, o2, o3, o4, o5, o6, o7, o8, o9, o10, o11, o12] = true) (hf : Region.free md #[o0, o1, o2, o3, o4, o5, o6, o7, o8, o9, o10, o11, o12] listed 3 = true) (hr : (Region.ready md #[o0, o1, o2, o3, o4, o5, o6, o7, o8, o9, o10, o11, o12] listed).contains 3 = true) (hQ : ∀ c a w, Q (.panic c) (a.put o3.dst v) w → Q (.panic c) a w) (hy : YieldsIf P #[o0, o1, o2, o3, o4, o5, o6, o7, o8, o9, o10, o11, o12] S o3 v a) (hS : S w) (h : wpAnyH P md #[o0, o1, o2, o3, o4, o5, o6, o7, o8, o9, o10, o11, o12] Q S fuel (listed.setIfInBounds 3 true) (a.put o3.dst v) w) : wpAnyH P md #[o0, o1, o2, o3, o4, o5, o6, o7, o8, o9, o10, o11, o12] Q S (fuel + 1) listed a w := wpAnyH_take (i := 3) (oi := o3) rfl hs hf hr hQ hy hS h
theorem ac3 (hr : Region.ready md #[o0, o1, o2, o3, o4, o5, o6, o7, o8, o9, o10, o11, o12] listed = [3]) (h : ∀ K' : Act → World → Prop, Shut (∀ a w, S w → (S w → wpAnyH P md #[o0, o1, o2, o3, o4, o5, o6, o7, o8, o9, o10, o11, o12] Q S fuel (listed.setIfInBounds 3 true) a w) → K' a w) → if Region.wanted o3 (yielded #[o0, o1, o2, o3, o4, o5, o6, o7, o8, o9, o10, o11, o12] a.tmps) = true then Oper.wp P o3 a w K' Q else K' (a.put o3.dst undef) w) : wpAnyH P md #[o0, o1, o2, o3, o4, o5, o6, o7, o8, o9, o10, o11, o12] Q S (fuel + 1) listed a w := wpAnyH_ready hr (by simp) (AllReadyH.cons (o := o3) rfl h AllReadyH.nil)
theorem tk4 (hs : Region.noSelect #[o0, o1, o2, o3, o4, o5, o6, o7, o8, o9, o10, o11, o12] = true) (hf : Region.free md #[o0, o1, o2, o3, o4, o5, o6, o7, o8, o9, o10, o11, o12] listed 4 = true) (hr : (Region.ready md #[o0, o1, o2, o3, o4, o5, o6, o7, o8, o9, o10, o11, o12] listed).contains 4 = true) (hQ : ∀ c a w, Q (.panic c) (a.put o4.dst v) w → Q (.panic c) a w) (hy : YieldsIf P #[o0, o1, o2, o3, o4, o5, o6, o7, o8, o9, o10, o11, o12] S o4 v a) (hS : S w) (h : wpAnyH P md #[o0, o1, o2, o3, o4, o5, o6, o7, o8, o9, o10, o11, o12] Q S fuel (listed.setIfInBounds 4 true) (a.put o4.dst v) w) : wpAnyH P md #[o0, o1, o2, o3, o4, o5, o6, o7, o8, o9, o10, o11, o12] Q S (fuel + 1) listed a w := wpAnyH_take (i := 4) (oi := o4) rfl hs hf hr hQ hy hS h
theorem ac4 (hr : Region.ready md #[o0, o1, o2, o3, o4, o5, o6, o7, o8, o9, o10, o11, o12] listed = [4]) (h : ∀ K' : Act → World → Prop, Shut (∀ a w, S w → (S w → wpAnyH P md #[o0, o1, o2, o3, o4, o5, o6, o7, o8, o9, o10, o11, o12] Q S fuel (listed.setIfInBounds 4 true) a w) → K' a w) → if Region.wanted o4 (yielded #[o0, o1, o2, o3, o4, o5, o6, o7, o8, o9, o10, o11, o12] a.tmps) = true then Oper.wp P o4 a w K' Q else K' (a.put o4.dst undef) w) : wpAnyH P md #[o0, o1, o2, o3, o4, o5, o6, o7, o8, o9, o10, o11, o12] Q S (fuel + 1) listed a w := wpAnyH_ready hr (by simp) (AllReadyH.cons (o := o4) rfl h AllReadyH.nil)
theorem tk5 (hs : Region.noSelect #[o0, o1, o2, o3, o4, o5, o6, o7, o8, o9, o10, o11, o12] = true) (hf : Region.free md #[o0, o1, o2, o3, o4, o5, o6, o7, o8, o9, o10, o11, o12] listed 5 = true) (hr : (Region.ready md #[o0, o1, o2, o3, o4, o5, o6, o7, o8, o9, o10, o11, o12] listed).contains 5 = true) (hQ : ∀ c a w, Q (.panic c) (a.put o5.dst v) w → Q (.panic c) a w) (hy : YieldsIf P #[o0, o1, o2, o3, o4, o5, o6, o7, o8, o9, o10, o11, o12] S o5 v a) (hS : S w) (h : wpAnyH P md #[o0, o1, o2, o3, o4, o5, o6, o7, o8, o9, o10, o11, o12] Q S fuel (listed.setIfInBounds 5 true) (a.put o5.dst v) w) : wpAnyH P md #[o0, o1, o2, o3, o4, o5, o6, o7, o8, o9, o10, o11, o12] Q S (fuel + 1) listed a w := wpAnyH_take (i := 5) (oi := o5) rfl hs hf hr hQ hy hS h
theorem tk6 (hs : Region.noSelect #[o0, o1, o2, o3, o4, o5, o6, o7, o8, o9, o10, o11, o12] = true) (hf : Region.free md #[o0, o1, o2, o3, o4, o5, o6, o7, o8, o9, o10, o11, o12] listed 6 = true) (hr : (Region.ready md #[o0, o1, o2, o3, o4, o5, o6, o7, o8, o9, o10, o11, o12] listed).contains 6 = true) (hQ : ∀ c a w, Q (.panic c) (a.put o6.dst v) w → Q (.panic c) a w) (hy : YieldsIf P #[o0, o1, o2, o3, o4, o5, o6, o7, o8, o9, o10, o11, o12] S o6 v a) (hS : S w) (h : wpAnyH P md #[o0, o1, o2, o3, o4, o5, o6, o7, o8, o9, o10, o11, o12] Q S fuel (listed.setIfInBounds 6 true) (a.put o6.dst v) w) : wpAnyH P md #[o0, o1, o2, o3, o4, o5, o6, o7, o8, o9, o10, o11, o12] Q S (fuel + 1) listed a w := wpAnyH_take (i := 6) (oi := o6) rfl hs hf hr hQ hy hS h
theorem tk7 (hs : Region.noSelect #[o0, o1, o2, o3, o4, o5, o6, o7, o8, o9, o10, o11, o12] = true) (hf : Region.free md #[o0, o1, o2, o3, o4, o5, o6, o7, o8, o9, o10, o11, o12] listed 7 = true) (hr : (Region.ready md #[o0, o1, o2, o3, o4, o5, o6, o7, o8, o9, o10, o11, o12] listed).contains 7 = true) (hQ : ∀ c a w, Q (.panic c) (a.put o7.dst v) w → Q (.panic c) a w) (hy : YieldsIf P #[o0, o1, o2, o3, o4, o5, o6, o7, o8, o9, o10, o11, o12] S o7 v a) (hS : S w) (h : wpAnyH P md #[o0, o1, o2, o3, o4, o5, o6, o7, o8, o9, o10, o11, o12] Q S fuel (listed.setIfInBounds 7 true) (a.put o7.dst v) w) : wpAnyH P md #[o0, o1, o2, o3, o4, o5, o6, o7, o8, o9, o10, o11, o12] Q S (fuel + 1) listed a w := wpAnyH_take (i := 7) (oi := o7) rfl hs hf hr hQ hy hS h
theorem ac7 (hr : Region.ready md #[o0, o1, o2, o3, o4, o5, o6, o7, o8, o9, o10, o11, o12] listed = [7]) (h : ∀ K' : Act → World → Prop, Shut (∀ a w, S w → (S w → wpAnyH P md #[o0, o1, o2, o3, o4, o5, o6, o7, o8, o9, o10, o11, o12] Q S fuel (listed.setIfInBounds 7 true) a w) → K' a w) → if Region.wanted o7 (yielded #[o0, o1, o2, o3, o4, o5, o6, o7, o8, o9, o10, o11, o12] a.tmps) = true then Oper.wp P o7 a w K' Q else K' (a.put o7.dst undef) w) : wpAnyH P md #[o0, o1, o2, o3, o4, o5, o6, o7, o8, o9, o10, o11, o12] Q S (fuel + 1) listed a w := wpAnyH_ready hr (by simp) (AllReadyH.cons (o := o7) rfl h AllReadyH.nil)
theorem tk8 (hs : Region.noSelect #[o0, o1, o2, o3, o4, o5, o6, o7, o8, o9, o10, o11, o12] = true) (hf : Region.free md #[o0, o1, o2, o3, o4, o5, o6, o7, o8, o9, o10, o11, o12] listed 8 = true) (hr : (Region.ready md #[o0, o1, o2, o3, o4, o5, o6, o7, o8, o9, o10, o11, o12] listed).contains 8 = true) (hQ : ∀ c a w, Q (.panic c) (a.put o8.dst v) w → Q (.panic c) a w) (hy : YieldsIf P #[o0, o1, o2, o3, o4, o5, o6, o7, o8, o9, o10, o11, o12] S o8 v a) (hS : S w) (h : wpAnyH P md #[o0, o1, o2, o3, o4, o5, o6, o7, o8, o9, o10, o11, o12] Q S fuel (listed.setIfInBounds 8 true) (a.put o8.dst v) w) : wpAnyH P md #[o0, o1, o2, o3, o4, o5, o6, o7, o8, o9, o10, o11, o12] Q S (fuel + 1) listed a w := wpAnyH_take (i := 8) (oi := o8) rfl hs hf hr hQ hy hS h
theorem ac8 (hr : Region.ready md #[o0, o1, o2, o3, o4, o5, o6, o7, o8, o9, o10, o11, o12] listed = [8]) (h : ∀ K' : Act → World → Prop, Shut (∀ a w, S w → (S w → wpAnyH P md #[o0, o1, o2, o3, o4, o5, o6, o7, o8, o9, o10, o11, o12] Q S fuel (listed.setIfInBounds 8 true) a w) → K' a w) → if Region.wanted o8 (yielded #[o0, o1, o2, o3, o4, o5, o6, o7, o8, o9, o10, o11, o12] a.tmps) = true then Oper.wp P o8 a w K' Q else K' (a.put o8.dst undef) w) : wpAnyH P md #[o0, o1, o2, o3, o4, o5, o6, o7, o8, o9, o10, o11, o12] Q S (fuel + 1) listed a w := wpAnyH_ready hr (by simp) (AllReadyH.cons (o := o8) rfl h AllReadyH.nil)
theorem tk9 (hs : Region.noSelect #[o0, o1, o2, o3, o4, o5, o6, o7, o8, o9, o10, o11, o12] = true) (hf : Region.free md #[o0, o1, o2, o3, o4, o5, o6, o7, o8, o9, o10, o11, o12] listed 9 = true) (hr : (Region.ready md #[o0, o1, o2, o3, o4, o5, o6, o7, o8, o9, o10, o11, o12] listed).contains 9 = true) (hQ : ∀ c a w, Q (.panic c) (a.put o9.dst v) w → Q (.panic c) a w) (hy : YieldsIf P #[o0, o1, o2, o3, o4, o5, o6, o7, o8, o9, o10, o11, o12] S o9 v a) (hS : S w) (h : wpAnyH P md #[o0, o1, o2, o3, o4, o5, o6, o7, o8, o9, o10, o11, o12] Q S fuel (listed.setIfInBounds 9 true) (a.put o9.dst v) w) : wpAnyH P md #[o0, o1, o2, o3, o4, o5, o6, o7, o8, o9, o10, o11, o12] Q S (fuel + 1) listed a w := wpAnyH_take (i := 9) (oi := o9) rfl hs hf hr hQ hy hS h
theorem ac9 (hr : Region.ready md #[o0, o1, o2, o3, o4, o5, o6, o7, o8, o9, o10, o11, o12] listed = [9]) (h : ∀ K' : Act → World → Prop, Shut (∀ a w, S w → (S w → wpAnyH P md #[o0, o1, o2, o3, o4, o5, o6, o7, o8, o9, o10, o11, o12] Q S fuel (listed.setIfInBounds 9 true) a w) → K' a w) → if Region.wanted o9 (yielded #[o0, o1, o2, o3, o4, o5, o6, o7, o8, o9, o10, o11, o12] a.tmps) = true then Oper.wp P o9 a w K' Q else K' (a.put o9.dst undef) w) : wpAnyH P md #[o0, o1, o2, o3, o4, o5, o6, o7, o8, o9, o10, o11, o12] Q S (fuel + 1) listed a w := wpAnyH_ready hr (by simp) (AllReadyH.cons (o := o9) rfl h AllReadyH.nil)
theorem tk10 (hs : Region.noSelect #[o0, o1, o2, o3, o4, o5, o6, o7, o8, o9, o10, o11, o12] = true) (hf : Region.free md #[o0, o1, o2, o3, o4, o5, o6, o7, o8, o9, o10, o11, o12] listed 10 = true) (hr : (Region.ready md #[o0, o1, o2, o3, o4, o5, o6, o7, o8, o9, o10, o11, o12] listed).contains 10 = true) (hQ : ∀ c a w, Q (.panic c) (a.put o10.dst v) w → Q (.panic c) a w) (hy : YieldsIf P #[o0, o1, o2, o3, o4, o5, o6, o7, o8, o9, o10, o11, o12] S o10 v a) (hS : S w) (h : wpAnyH P md #[o0, o1, o2, o3, o4, o5, o6, o7, o8, o9, o10, o11, o12] Q S fuel (listed.setIfInBounds 10 true) (a.put o10.dst v) w) : wpAnyH P md #[o0, o1, o2, o3, o4, o5, o6, o7, o8, o9, o10, o11, o12] Q S (fuel + 1) listed a w := wpAnyH_take (i := 10) (oi := o10) rfl hs hf hr hQ hy hS h
theorem tk11 (hs : Region.noSelect #[o0, o1, o2, o3, o4, o5, o6, o7, o8, o9, o10, o11, o12] = true) (hf : Region.free md #[o0, o1, o2, o3, o4, o5, o6, o7, o8, o9, o10, o11, o12] listed 11 = true) (hr : (Region.ready md #[o0, o1, o2, o3, o4, o5, o6, o7, o8, o9, o10, o11, o12] listed).contains 11 = true) (hQ : ∀ c a w, Q (.panic c) (a.put o11.dst v) w → Q (.panic c) a w) (hy : YieldsIf P #[o0, o1, o2, o3, o4, o5, o6, o7, o8, o9, o10, o11, o12] S o11 v a) (hS : S w) (h : wpAnyH P md #[o0, o1, o2, o3, o4, o5, o6, o7, o8, o9, o10, o11, o12] Q S fuel (listed.setIfInBounds 11 true) (a.put o11.dst v) w) : wpAnyH P md #[o0, o1, o2, o3, o4, o5, o6, o7, o8, o9, o10, o11, o12] Q S (fuel + 1) listed a w := wpAnyH_take (i := 11) (oi := o11) rfl hs hf hr hQ hy hS h
theorem ac11 (hr : Region.ready md #[o0, o1, o2, o3, o4, o5, o6, o7, o8, o9, o10, o11, o12] listed = [11]) (h : ∀ K' : Act → World → Prop, Shut (∀ a w, S w → (S w → wpAnyH P md #[o0, o1, o2, o3, o4, o5, o6, o7, o8, o9, o10, o11, o12] Q S fuel (listed.setIfInBounds 11 true) a w) → K' a w) → if Region.wanted o11 (yielded #[o0, o1, o2, o3, o4, o5, o6, o7, o8, o9, o10, o11, o12] a.tmps) = true then Oper.wp P o11 a w K' Q else K' (a.put o11.dst undef) w) : wpAnyH P md #[o0, o1, o2, o3, o4, o5, o6, o7, o8, o9, o10, o11, o12] Q S (fuel + 1) listed a w := wpAnyH_ready hr (by simp) (AllReadyH.cons (o := o11) rfl h AllReadyH.nil)
theorem tk12 (hs : Region.noSelect #[o0, o1, o2, o3, o4, o5, o6, o7, o8, o9, o10, o11, o12] = true) (hf : Region.free md #[o0, o1, o2, o3, o4, o5, o6, o7, o8, o9, o10, o11, o12] listed 12 = true) (hr : (Region.ready md #[o0, o1, o2, o3, o4, o5, o6, o7, o8, o9, o10, o11, o12] listed).contains 12 = true) (hQ : ∀ c a w, Q (.panic c) (a.put o12.dst v) w → Q (.panic c) a w) (hy : YieldsIf P #[o0, o1, o2, o3, o4, o5, o6, o7, o8, o9, o10, o11, o12] S o12 v a) (hS : S w) (h : wpAnyH P md #[o0, o1, o2, o3, o4, o5, o6, o7, o8, o9, o10, o11, o12] Q S fuel (listed.setIfInBounds 12 true) (a.put o12.dst v) w) : wpAnyH P md #[o0, o1, o2, o3, o4, o5, o6, o7, o8, o9, o10, o11, o12] Q S (fuel + 1) listed a w := wpAnyH_take (i := 12) (oi := o12) rfl hs hf hr hQ hy hS h
theorem ac12 (hr : Region.ready md #[o0, o1, o2, o3, o4, o5, o6, o7, o8, o9, o10, o11, o12] listed = [12]) (h : ∀ K' : Act → World → Prop, Shut (∀ a w, S w → (S w → wpAnyH P md #[o0, o1, o2, o3, o4, o5, o6, o7, o8, o9, o10, o11, o12] Q S fuel (listed.setIfInBounds 12 true) a w) → K' a w) → if Region.wanted o12 (yielded #[o0, o1, o2, o3, o4, o5, o6, o7, o8, o9, o10, o11, o12] a.tmps) = true then Oper.wp P o12 a w K' Q else K' (a.put o12.dst undef) w) : wpAnyH P md #[o0, o1, o2, o3, o4, o5, o6, o7, o8, o9, o10, o11, o12] Q S (fuel + 1) listed a w := wpAnyH_ready hr (by simp) (AllReadyH.cons (o := o12) rfl h AllReadyH.nil)
theorem ac3_8 (hr : Region.ready md #[o0, o1, o2, o3, o4, o5, o6, o7, o8, o9, o10, o11, o12] listed = [3, 8]) (h : ∀ K' : Act → World → Prop, Shut (∀ a w, S w → (S w → wpAnyH P md #[o0, o1, o2, o3, o4, o5, o6, o7, o8, o9, o10, o11, o12] Q S fuel (listed.setIfInBounds 3 true) a w) → K' a w) → if Region.wanted o3 (yielded #[o0, o1, o2, o3, o4, o5, o6, o7, o8, o9, o10, o11, o12] a.tmps) = true then Oper.wp P o3 a w K' Q else K' (a.put o3.dst undef) w) (h2 : ∀ K' : Act → World → Prop, Shut (∀ a w, S w → (S w → wpAnyH P md #[o0, o1, o2, o3, o4, o5, o6, o7, o8, o9, o10, o11, o12] Q S fuel (listed.setIfInBounds 8 true) a w) → K' a w) → if Region.wanted o8 (yielded #[o0, o1, o2, o3, o4, o5, o6, o7, o8, o9, o10, o11, o12] a.tmps) = true then Oper.wp P o8 a w K' Q else K' (a.put o8.dst undef) w) : wpAnyH P md #[o0, o1, o2, o3, o4, o5, o6, o7, o8, o9, o10, o11, o12] Q S (fuel + 1) listed a w := wpAnyH_ready hr (by simp) (AllReadyH.cons (o := o3) rfl h (AllReadyH.cons (o := o8) rfl h2 AllReadyH.nil))
end
end Go.Proofs.YtphnnbbgcnilgaaDoor.LstR13

namespace Go.Proofs.YtphnnbbgcnilgaaDoor.LstR16
open Go Go.RowKit
set_option linter.unusedVariables false
section
variable {P : Program} {md : Region.Mode} {o0 o1 o2 o3 o4 o5 o6 o7 o8 o9 o10 o11 o12 o13 o14 o15 : Oper} {Q : Exit → Act → World → Prop} {S : World → Prop} {fuel : Nat} {listed : Array Bool} {a : Act} {w : World} {v : Value}
theorem tk0 (hs : Region.noSelect #[o0, o1, o2, o3, o4, o5, o6, o7, o8, o9, o10, o11, o12, o13, o14, o15] = true) (hf : Region.free md #[o0, o1, o2, o3, o4, o5, o6, o7, o8, o9, o10, o11, o12, o13, o14, o15] listed 0 = true) (hr : (Region.ready md #[o0, o1, o2, o3, o4, o5, o6, o7, o8, o9, o10, o11, o12, o13, o14, o15] listed).contains 0 = true) (hQ : ∀ c a w, Q (.panic c) (a.put o0.dst v) w → Q (.panic c) a w) (hy : YieldsIf P #[o0, o1, o2, o3, o4, o5, o6, o7, o8, o9, o10, o11, o12, o13, o14, o15] S o0 v a) (hS : S w) (h : wpAnyH P md #[o0, o1, o2, o3, o4, o5, o6, o7, o8, o9, o10, o11, o12, o13, o14, o15] Q S fuel (listed.setIfInBounds 0 true) (a.put o0.dst v) w) : wpAnyH P md #[o0, o1, o2, o3, o4, o5, o6, o7, o8, o9, o10, o11, o12, o13, o14, o15] Q S (fuel + 1) listed a w := wpAnyH_take (i := 0) (oi := o0) rfl hs hf hr hQ hy hS h
theorem tk1 (hs : Region.noSelect #[o0, o1, o2, o3, o4, o5, o6, o7, o8, o9, o10, o11, o12, o13, o14, o15] = true) (hf : Region.free md #[o0, o1, o2, o3, o4, o5, o6, o7, o8, o9, o10, o11, o12, o13, o14, o15] listed 1 = true) (hr : (Region.ready md #[o0, o1, o2, o3, o4, o5, o6, o7, o8, o9, o10, o11, o12, o13, o14, o15] listed).contains 1 = true) (hQ : ∀ c a w, Q (.panic c) (a.put o1.dst v) w → Q (.panic c) a w) (hy : YieldsIf P #[o0, o1, o2, o3, o4, o5, o6, o7, o8, o9, o10, o11, o12, o13, o14, o15] S o1 v a) (hS : S w) (h : wpAnyH P md #[o0, o1, o2, o3, o4, o5, o6, o7, o8, o9, o10, o11, o12, o13, o14, o15] Q S fuel (listed.setIfInBounds 1 true) (a.put o1.dst v) w) : wpAnyH P md #[o0, o1, o2, o3, o4, o5, o6, o7, o8, o9, o10, o11, o12, o13, o14, o15] Q S (fuel + 1) listed a w := wpAnyH_take (i := 1) (oi := o1) rfl hs hf hr hQ hy hS h
theorem tk2 (hs : Region.noSelect #[o0, o1, o2, o3, o4, o5, o6, o7, o8, o9, o10, o11, o12, o13, o14, o15] = true) (hf : Region.free md #[o0, o1, o2, o3, o4, o5, o6, o7, o8, o9, o10, o11, o12, o13, o14, o15] listed 2 = true) (hr : (Region.ready md #[o0, o1, o2, o3, o4, o5, o6, o7, o8, o9, o10, o11, o12, o13, o14, o15] listed).contains 2 = true) (hQ : ∀ c a w, Q (.panic c) (a.put o2.dst v) w → Q (.panic c) a w) (hy : YieldsIf P #[o0, o1, o2, o3, o4, o5, o6, o7, o8, o9, o10, o11, o12, o13, o14, o15] S o2 v a) (hS : S w) (h : wpAnyH P md #[o0, o1, o2, o3, o4, o5, o6, o7, o8, o9, o10, o11, o12, o13, o14, o15] Q S fuel (listed.setIfInBounds 2 true) (a.put o2.dst v) w) : wpAnyH P md #[o0, o1, o2, o3, o4, o5, o6, o7, o8, o9, o10, o11, o12, o13, o14, o15] Q S (fuel + 1) listed a w := wpAnyH_take (i := 2) (oi := o2) rfl hs hf hr hQ hy hS h
theorem tk3 (hs : Region.noSelect #[o0, o1, o2, o3, o4, o5, o6, o7, o8, o9, o10, o11, o12, o13, o14, o15] = true) (hf : Region.free md #[o0, o1, o2, o3, o4, o5, o6, o7, o8, o9, o10, o11, o12, o13, o14, o15] listed 3 = true) (hr : (Region.ready md #[o0, o1, o2, o3, o4, o5, o6, o7, o8, o9, o10, o11, o12, o13, o14, o15] listed).contains 3 = true) (hQ : ∀ c a w, Q (.panic c) (a.put o3.dst v) w → Q (.panic c) a w) (hy : YieldsIf P #[o0, o1, o2, o3, o4, o5, o6, o7, o8, o9, o10, o11, o12, o13, o14, o15] S o3 v a) (hS : S w) (h : wpAnyH P md #[o0, o1, o2, o3, o4, o5, o6, o7, o8, o9, o10, o11, o12, o13, o14, o15] Q S fuel (listed.setIfInBounds 3 true) (a.put o3.dst v) w) : wpAnyH P md #[o0, o1, o2, o3, o4, o5, o6, o7, o8, o9, o10, o11, o12, o13, o14, o15] Q S (fuel + 1) listed a w := wpAnyH_take (i := 3) (oi := o3) rfl hs hf hr hQ hy hS h
theorem ac3 (hr : Region.ready md #[o0, o1, o2, o3, o4, o5, o6, o7, o8, o9, o10, o11, o12, o13, o14, o15] listed = [3]) (h : ∀ K' : Act → World → Prop, Shut (∀ a w, S w → (S w → wpAnyH P md #[o0, o1, o2, o3, o4, o5, o6, o7, o8, o9, o10, o11, o12, o13, o14, o15] Q S fuel (listed.setIfInBounds 3 true) a w) → K' a w) → if Region.wanted o3 (yielded #[o0, o1, o2, o3, o4, o5, o6, o7, o8, o9, o10, o11, o12, o13, o14, o15] a.tmps) = true then Oper.wp P o3 a w K' Q else K' (a.put o3.dst undef) w) : wpAnyH P md #[o0, o1, o2, o3, o4, o5, o6, o7, o8, o9, o10, o11, o12, o13, o14, o15] Q S (fuel + 1) listed a w := wpAnyH_ready hr (by simp) (AllReadyH.cons (o := o3) rfl h AllReadyH.nil)
theorem tk4 (hs : Region.noSelect #[o0, o1, o2, o3, o4, o5, o6, o7, o8, o9, o10, o11, o12, o13, o14, o15] = true) (hf : Region.free md #[o0, o1, o2, o3, o4, o5, o6, o7, o8, o9, o10, o11, o12, o13, o14, o15] listed 4 = true) (hr : (Region.ready md #[o0, o1, o2, o3, o4, o5, o6, o7, o8, o9, o10, o11, o12, o13, o14, o15] listed).contains 4 = true) (hQ : ∀ c a w, Q (.panic c) (a.put o4.dst v) w → Q (.panic c) a w) (hy : YieldsIf P #[o0, o1, o2, o3, o4, o5, o6, o7, o8, o9, o10, o11, o12, o13, o14, o15] S o4 v a) (hS : S w) (h : wpAnyH P md #[o0, o1, o2, o3, o4, o5, o6, o7, o8, o9, o10, o11, o12, o13, o14, o15] Q S fuel (listed.setIfInBounds 4 true) (a.put o4.dst v) w) : wpAnyH P md #[o0, o1, o2, o3, o4, o5, o6, o7, o8, o9, o10, o11, o12, o13, o14, o15] Q S (fuel + 1) listed a w := wpAnyH_take (i := 4) (oi := o4) rfl hs hf hr hQ hy hS h
theorem ac4 (hr : Region.ready md #[o0, o1, o2, o3, o4, o5, o6, o7, o8, o9, o10, o11, o12, o13, o14, o15] listed = [4]) (h : ∀ K' : Act → World → Prop, Shut (∀ a w, S w → (S w → wpAnyH P md #[o0, o1, o2, o3, o4, o5, o6, o7, o8, o9, o10, o11, o12, o13, o14, o15] Q S fuel (listed.setIfInBounds 4 true) a w) → K' a w) → if Region.wanted o4 (yielded #[o0, o1, o2, o3, o4, o5, o6, o7, o8, o9, o10, o11, o12, o13, o14, o15] a.tmps) = true then Oper.wp P o4 a w K' Q else K' (a.put o4.dst undef) w) : wpAnyH P md #[o0, o1, o2, o3, o4, o5, o6, o7, o8, o9, o10, o11, o12, o13, o14, o15] Q S (fuel + 1) listed a w := wpAnyH_ready hr (by simp) (AllReadyH.cons (o := o4) rfl h AllReadyH.nil)
theorem tk5 (hs : Region.noSelect #[o0, o1, o2, o3, o4, o5, o6, o7, o8, o9, o10, o11, o12, o13, o14, o15] = true) (hf : Region.free md #[o0, o1, o2, o3, o4, o5, o6, o7, o8, o9, o10, o11, o12, o13, o14, o15] listed 5 = true) (hr : (Region.ready md #[o0, o1, o2, o3, o4, o5, o6, o7, o8, o9, o10, o11, o12, o13, o14, o15] listed).contains 5 = true) (hQ : ∀ c a w, Q (.panic c) (a.put o5.dst v) w → Q (.panic c) a w) (hy : YieldsIf P #[o0, o1, o2, o3, o4, o5, o6, o7, o8, o9, o10, o11, o12, o13, o14, o15] S o5 v a) (hS : S w) (h : wpAnyH P md #[o0, o1, o2, o3, o4, o5, o6, o7, o8, o9, o10, o11, o12, o13, o14, o15] Q S fuel (listed.setIfInBounds 5 true) (a.put o5.dst v) w) : wpAnyH P md #[o0, o1, o2, o3, o4, o5, o6, o7, o8, o9, o10, o11, o12, o13, o14, o15] Q S (fuel + 1) listed a w := wpAnyH_take (i := 5) (oi := o5) rfl hs hf hr hQ hy hS h
theorem tk6 (hs : Region.noSelect #[o0, o1, o2, o3, o4, o5, o6, o7, o8, o9, o10, o11, o12, o13, o14, o15] = true) (hf : Region.free md #[o0, o1, o2, o3, o4, o5, o6, o7, o8, o9, o10, o11, o12, o13, o14, o15] listed 6 = true) (hr : (Region.ready md #[o0, o1, o2, o3, o4, o5, o6, o7, o8, o9, o10, o11, o12, o13, o14, o15] listed).contains 6 = true) (hQ : ∀ c a w, Q (.panic c) (a.put o6.dst v) w → Q (.panic c) a w) (hy : YieldsIf P #[o0, o1, o2, o3, o4, o5, o6, o7, o8, o9, o10, o11, o12, o13, o14, o15] S o6 v a) (hS : S w) (h : wpAnyH P md #[o0, o1, o2, o3, o4, o5, o6, o7, o8, o9, o10, o11, o12, o13, o14, o15] Q S fuel (listed.setIfInBounds 6 true) (a.put o6.dst v) w) : wpAnyH P md #[o0, o1, o2, o3, o4, o5, o6, o7, o8, o9, o10, o11, o12, o13, o14, o15] Q S (fuel + 1) listed a w := wpAnyH_take (i := 6) (oi := o6) rfl hs hf hr hQ hy hS h
theorem tk7 (hs : Region.noSelect #[o0, o1, o2, o3, o4, o5, o6, o7, o8, o9, o10, o11, o12, o13, o14, o15] = true) (hf : Region.free md #[o0, o1, o2, o3, o4, o5, o6, o7, o8, o9, o10, o11, o12, o13, o14, o15] listed 7 = true) (hr : (Region.ready md #[o0, o1, o2, o3, o4, o5, o6, o7, o8, o9, o10, o11, o12, o13, o14, o15] listed).contains 7 = true) (hQ : ∀ c a w, Q (.panic c) (a.put o7.dst v) w → Q (.panic c) a w) (hy : YieldsIf P #[o0, o1, o2, o3, o4, o5, o6, o7, o8, o9, o10, o11, o12, o13, o14, o15] S o7 v a) (hS : S w) (h : wpAnyH P md #[o0, o1, o2, o3, o4, o5, o6, o7, o8, o9, o10, o11, o12, o13, o14, o15] Q S fuel (listed.setIfInBounds 7 true) (a.put o7.dst v) w) : wpAnyH P md #[o0, o1, o2, o3, o4, o5, o6, o7, o8, o9, o10, o11, o12, o13, o14, o15] Q S (fuel + 1) listed a w := wpAnyH_take (i := 7) (oi := o7) rfl hs hf hr hQ hy hS h
theorem ac7 (hr : Region.ready md #[o0, o1, o2, o3, o4, o5, o6, o7, o8, o9, o10, o11, o12, o13, o14, o15] listed = [7]) (h : ∀ K' : Act → World → Prop, Shut (∀ a w, S w → (S w → wpAnyH P md #[o0, o1, o2, o3, o4, o5, o6, o7, o8, o9, o10, o11, o12, o13, o14, o15] Q S fuel (listed.setIfInBounds 7 true) a w) → K' a w) → if Region.wanted o7 (yielded #[o0, o1, o2, o3, o4, o5, o6, o7, o8, o9, o10, o11, o12, o13, o14, o15] a.tmps) = true then Oper.wp P o7 a w K' Q else K' (a.put o7.dst undef) w) : wpAnyH P md #[o0, o1, o2, o3, o4, o5, o6, o7, o8, o9, o10, o11, o12, o13, o14, o15] Q S (fuel + 1) listed a w := wpAnyH_ready hr (by simp) (AllReadyH.cons (o := o7) rfl h AllReadyH.nil)
theorem tk8 (hs : Region.noSelect #[o0, o1, o2, o3, o4, o5, o6, o7, o8, o9, o10, o11, o12, o13, o14, o15] = true) (hf : Region.free md #[o0, o1, o2, o3, o4, o5, o6, o7, o8, o9, o10, o11, o12, o13, o14, o15] listed 8 = true) (hr : (Region.ready md #[o0, o1, o2, o3, o4, o5, o6, o7, o8, o9, o10, o11, o12, o13, o14, o15] listed).contains 8 = true) (hQ : ∀ c a w, Q (.panic c) (a.put o8.dst v) w → Q (.panic c) a w) (hy : YieldsIf P #[o0, o1, o2, o3, o4, o5, o6, o7, o8, o9, o10, o11, o12, o13, o14, o15] S o8 v a) (hS : S w) (h : wpAnyH P md #[o0, o1, o2, o3, o4, o5, o6, o7, o8, o9, o10, o11, o12, o13, o14, o15] Q S fuel (listed.setIfInBounds 8 true) (a.put o8.dst v) w) : wpAnyH P md #[o0, o1, o2, o3, o4, o5, o6, o7, o8, o9, o10, o11, o12, o13, o14, o15] Q S (fuel + 1) listed a w := wpAnyH_take (i := 8) (oi := o8) rfl hs hf hr hQ hy hS h
theorem ac8 (hr : Region.ready md #[o0, o1, o2, o3, o4, o5, o6, o7, o8, o9, o10, o11, o12, o13, o14, o15] listed = [8]) (h : ∀ K' : Act → World → Prop, Shut (∀ a w, S w → (S w → wpAnyH P md #[o0, o1, o2, o3, o4, o5, o6, o7, o8, o9, o10, o11, o12, o13, o14, o15] Q S fuel (listed.setIfInBounds 8 true) a w) → K' a w) → if Region.wanted o8 (yielded #[o0, o1, o2, o3, o4, o5, o6, o7, o8, o9, o10, o11, o12, o13, o14, o15] a.tmps) = true then Oper.wp P o8 a w K' Q else K' (a.put o8.dst undef) w) : wpAnyH P md #[o0, o1, o2, o3, o4, o5, o6, o7, o8, o9, o10, o11, o12, o13, o14, o15] Q S (fuel + 1) listed a w := wpAnyH_ready hr (by simp) (AllReadyH.cons (o := o8) rfl h AllReadyH.nil)
theorem tk9 (hs : Region.noSelect #[o0, o1, o2, o3, o4, o5, o6, o7, o8, o9, o10, o11, o12, o13, o14, o15] = true) (hf : Region.free md #[o0, o1, o2, o3, o4, o5, o6, o7, o8, o9, o10, o11, o12, o13, o14, o15] listed 9 = true) (hr : (Region.ready md #[o0, o1, o2, o3, o4, o5, o6, o7, o8, o9, o10, o11, o12, o13, o14, o15] listed).contains 9 = true) (hQ : ∀ c a w, Q (.panic c) (a.put o9.dst v) w → Q (.panic c) a w) (hy : YieldsIf P #[o0, o1, o2, o3, o4, o5, o6, o7, o8, o9, o10, o11, o12, o13, o14, o15] S o9 v a) (hS : S w) (h : wpAnyH P md #[o0, o1, o2, o3, o4, o5, o6, o7, o8, o9, o10, o11, o12, o13, o14, o15] Q S fuel (listed.setIfInBounds 9 true) (a.put o9.dst v) w) : wpAnyH P md #[o0, o1, o2, o3, o4, o5, o6, o7, o8, o9, o10, o11, o12, o13, o14, o15] Q S (fuel + 1) listed a w := wpAnyH_take (i := 9) (oi := o9) rfl hs hf hr hQ hy hS h
theorem ac9 (hr : Region.ready md #[o0, o1, o2, o3, o4, o5, o6, o7, o8, o9, o10, o11, o12, o13, o14, o15] listed = [9]) (h : ∀ K' : Act → World → Prop, Shut (∀ a w, S w → (S w → wpAnyH P md #[o0, o1, o2, o3, o4, o5, o6, o7, o8, o9, o10, o11, o12, o13, o14, o15] Q S fuel (listed.setIfInBounds 9 true) a w) → K' a w) → if Region.wanted o9 (yielded #[o0, o1, o2, o3, o4, o5, o6, o7, o8, o9, o10, o11, o12, o13, o14, o15] a.tmps) = true then Oper.wp P o9 a w K' Q else K' (a.put o9.dst undef) w) : wpAnyH P md #[o0, o1, o2, o3, o4, o5, o6, o7, o8, o9, o10, o11, o12, o13, o14, o15] Q S (fuel + 1) listed a w := wpAnyH_ready hr (by simp) (AllReadyH.cons (o := o9) rfl h AllReadyH.nil)
theorem tk10 (hs : Region.noSelect #[o0, o1, o2, o3, o4, o5, o6, o7, o8, o9, o10, o11, o12, o13, o14, o15] = true) (hf : Region.free md #[o0, o1, o2, o3, o4, o5, o6, o7, o8, o9, o10, o11, o12, o13, o14, o15] listed 10 = true) (hr : (Region.ready md #[o0, o1, o2, o3, o4, o5, o6, o7, o8, o9, o10, o11, o12, o13, o14, o15] listed).contains 10 = true) (hQ : ∀ c a w, Q (.panic c) (a.put o10.dst v) w → Q (.panic c) a w) (hy : YieldsIf P #[o0, o1, o2, o3, o4, o5, o6, o7, o8, o9, o10, o11, o12, o13, o14, o15] S o10 v a) (hS : S w) (h : wpAnyH P md #[o0, o1, o2, o3, o4, o5, o6, o7, o8, o9, o10, o11, o12, o13, o14, o15] Q S fuel (listed.setIfInBounds 10 true) (a.put o10.dst v) w) : wpAnyH P md #[o0, o1, o2, o3, o4, o5, o6, o7, o8, o9, o10, o11, o12, o13, o14, o15] Q S (fuel + 1) listed a w := wpAnyH_take (i := 10) (oi := o10) rfl hs hf hr hQ hy hS h
theorem tk11 (hs : Region.noSelect #[o0, o1, o2, o3, o4, o5, o6, o7, o8, o9, o10, o11, o12, o13, o14, o15] = true) (hf : Region.free md #[o0, o1, o2, o3, o4, o5, o6, o7, o8, o9, o10, o11, o12, o13, o14, o15] listed 11 = true) (hr : (Region.ready md #[o0, o1, o2, o3, o4, o5, o6, o7, o8, o9, o10, o11, o12, o13, o14, o15] listed).contains 11 = true) (hQ : ∀ c a w, Q (.panic c) (a.put o11.dst v) w → Q (.panic c) a w) (hy : YieldsIf P #[o0, o1, o2, o3, o4, o5, o6, o7, o8, o9, o10, o11, o12, o13, o14, o15] S o11 v a) (hS : S w) (h : wpAnyH P md #[o0, o1, o2, o3, o4, o5, o6, o7, o8, o9, o10, o11, o12, o13, o14, o15] Q S fuel (listed.setIfInBounds 11 true) (a.put o11.dst v) w) : wpAnyH P md #[o0, o1, o2, o3, o4, o5, o6, o7, o8, o9, o10, o11, o12, o13, o14, o15] Q S (fuel + 1) listed a w := wpAnyH_take (i := 11) (oi := o11) rfl hs hf hr hQ hy hS h
theorem ac11 (hr : Region.ready md #[o0, o1, o2, o3, o4, o5, o6, o7, o8, o9, o10, o11, o12, o13, o14, o15] listed = [11]) (h : ∀ K' : Act → World → Prop, Shut (∀ a w, S w → (S w → wpAnyH P md #[o0, o1, o2, o3, o4, o5, o6, o7, o8, o9, o10, o11, o12, o13, o14, o15] Q S fuel (listed.setIfInBounds 11 true) a w) → K' a w) → if Region.wanted o11 (yielded #[o0, o1, o2, o3, o4, o5, o6, o7, o8, o9, o10, o11, o12, o13, o14, o15] a.tmps) = true then Oper.wp P o11 a w K' Q else K' (a.put o11.dst undef) w) : wpAnyH P md #[o0, o1, o2, o3, o4, o5, o6, o7, o8, o9, o10, o11, o12, o13, o14, o15] Q S (fuel + 1) listed a w := wpAnyH_ready hr (by simp) (AllReadyH.cons (o := o11) rfl h AllReadyH.nil)
theorem tk12 (hs : Region.noSelect #[o0, o1, o2, o3, o4, o5, o6, o7, o8, o9, o10, o11, o12, o13, o14, o15] = true) (hf : Region.free md #[o0, o1, o2, o3, o4, o5, o6, o7, o8, o9, o10, o11, o12, o13, o14, o15] listed 12 = true) (hr : (Region.ready md #[o0, o1, o2, o3, o4, o5, o6, o7, o8, o9, o10, o11, o12, o13, o14, o15] listed).contains 12 = true) (hQ : ∀ c a w, Q (.panic c) (a.put o12.dst v) w → Q (.panic c) a w) (hy : YieldsIf P #[o0, o1, o2, o3, o4, o5, o6, o7, o8, o9, o10, o11, o12, o13, o14, o15] S o12 v a) (hS : S w) (h : wpAnyH P md #[o0, o1, o2, o3, o4, o5, o6, o7, o8, o9, o10, o11, o12, o13, o14, o15] Q S fuel (listed.setIfInBounds 12 true) (a.put o12.dst v) w) : wpAnyH P md #[o0, o1, o2, o3, o4, o5, o6, o7, o8, o9, o10, o11, o12, o13, o14, o15] Q S (fuel + 1) listed a w := wpAnyH_take (i := 12) (oi := o12) rfl hs hf hr hQ hy hS h
theorem ac12 (hr : Region.ready md #[o0, o1, o2, o3, o4, o5, o6, o7, o8, o9, o10, o11, o12, o13, o14, o15] listed = [12]) (h : ∀ K' : Act → World → Prop, Shut (∀ a w, S w → (S w → wpAnyH P md #[o0, o1, o2, o3, o4, o5, o6, o7, o8, o9, o10, o11, o12, o13, o14, o15] Q S fuel (listed.setIfInBounds 12 true) a w) → K' a w) → if Region.wanted o12 (yielded #[o0, o1, o2, o3, o4, o5, o6, o7, o8, o9, o10, o11, o12, o13, o14, o15] a.tmps) = true then Oper.wp P o12 a w K' Q else K' (a.put o12.dst undef) w) : wpAnyH P md #[o0, o1, o2, o3, o4, o5, o6, o7, o8, o9, o10, o11, o12, o13, o14, o15] Q S (fuel + 1) listed a w := wpAnyH_ready hr (by simp) (AllReadyH.cons (o := o12) rfl h AllReadyH.nil)
theorem tk13 (hs : Region.noSelect #[o0, o1, o2, o3, o4, o5, o6, o7, o8, o9, o10, o11, o12, o13, o14, o15] = true) (hf : Region.free md #[o0, o1, o2, o3, o4, o5, o6, o7, o8, o9, o10, o11, o12, o13, o14, o15] listed 13 = true) (hr : (Region.ready md #[o0, o1, o2, o3, o4, o5, o6, o7, o8, o9, o10, o11, o12, o13, o14, o15] listed).contains 13 = true) (hQ : ∀ c a w, Q (.panic c) (a.put o13.dst v) w → Q (.panic c) a w) (hy : YieldsIf P #[o0, o1, o2, o3, o4, o5, o6, o7, o8, o9, o10, o11, o12, o13, o14, o15] S o13 v a) (hS : S w) (h : wpAnyH P md #[o0, o1, o2, o3, o4, o5, o6, o7, o8, o9, o10, o11, o12, o13, o14, o15] Q S fuel (listed.setIfInBounds 13 true) (a.put o13.dst v) w) : wpAnyH P md #[o0, o1, o2, o3, o4, o5, o6, o7, o8, o9, o10, o11, o12, o13, o14, o15] Q S (fuel + 1) listed a w := wpAnyH_take (i := 13) (oi := o13) rfl hs hf hr hQ hy hS h
theorem tk14 (hs : Region.noSelect #[o0, o1, o2, o3, o4, o5, o6, o7, o8, o9, o10, o11, o12, o13, o14, o15] = true) (hf : Region.free md #[o0, o1, o2, o3, o4, o5, o6, o7, o8, o9, o10, o11, o12, o13, o14, o15] listed 14 = true) (hr : (Region.ready md #[o0, o1, o2, o3, o4, o5, o6, o7, o8, o9, o10, o11, o12, o13, o14, o15] listed).contains 14 = true) (hQ : ∀ c a w, Q (.panic c) (a.put o14.dst v) w → Q (.panic c) a w) (hy : YieldsIf P #[o0, o1, o2, o3, o4, o5, o6, o7, o8, o9, o10, o11, o12, o13, o14, o15] S o14 v a) (hS : S w) (h : wpAnyH P md #[o0, o1, o2, o3, o4, o5, o6, o7, o8, o9, o10, o11, o12, o13, o14, o15] Q S fuel (listed.setIfInBounds 14 true) (a.put o14.dst v) w) : wpAnyH P md #[o0, o1, o2, o3, o4, o5, o6, o7, o8, o9, o10, o11, o12, o13, o14, o15] Q S (fuel + 1) listed a w := wpAnyH_take (i := 14) (oi := o14) rfl hs hf hr hQ hy hS h
theorem tk15 (hs : Region.noSelect #[o0, o1, o2, o3, o4, o5, o6, o7, o8, o9, o10, o11, o12, o13, o14, o15] = true) (hf : Region.free md #[o0, o1, o2, o3, o4, o5, o6, o7, o8, o9, o10, o11, o12, o13, o14, o15] listed 15 = true) (hr : (Region.ready md #[o0, o1, o2, o3, o4, o5, o6, o7, o8, o9, o10, o11, o12, o13, o14, o15] listed).contains 15 = true) (hQ : ∀ c a w, Q (.panic c) (a.put o15.dst v) w → Q (.panic c) a w) (hy : YieldsIf P #[o0, o1, o2, o3, o4, o5, o6, o7, o8, o9, o10, o11, o12, o13, o14, o15] S o15 v a) (hS : S w) (h : wpAnyH P md #[o0, o1, o2, o3, o4, o5, o6, o7, o8, o9, o10, o11, o12, o13, o14, o15] Q S fuel (listed.setIfInBounds 15 true) (a.put o15.dst v) w) : wpAnyH P md #[o0, o1, o2, o3, o4, o5, o6, o7, o8, o9, o10, o11, o12, o13, o14, o15] Q S (fuel + 1) listed a w := wpAnyH_take (i := 15) (oi := o15) rfl hs hf hr hQ hy hS h
theorem ac15 (hr : Region.ready md #[o0, o1, o2, o3, o4, o5, o6, o7, o8, o9, o10, o11, o12, o13, o14, o15] listed = [15]) (h : ∀ K' : Act → World → Prop, Shut (∀ a w, S w → (S w → wpAnyH P md #[o0, o1, o2, o3, o4, o5, o6, o7, o8, o9, o10, o11, o12, o13, o14, o15] Q S fuel (listed.setIfInBounds 15 true) a w) → K' a w) → if Region.wanted o15 (yielded #[o0, o1, o2, o3, o4, o5, o6, o7, o8, o9, o10, o11, o12, o13, o14, o15] a.tmps) = true then Oper.wp P o15 a w K' Q else K' (a.put o15.dst undef) w) : wpAnyH P md #[o0, o1, o2, o3, o4, o5, o6, o7, o8, o9, o10, o11, o12, o13, o14, o15] Q S (fuel + 1) listed a w := wpAnyH_ready hr (by simp) (AllReadyH.cons (o := o15) rfl h AllReadyH.nil)
theorem ac3_11 (hr : Region.ready md #[o0, o1, o2, o3, o4, o5, o6, o7, o8, o9, o10, o11, o12, o13, o14, o15] listed = [3, 11]) (h : ∀ K' : Act → World → Prop, Shut (∀ a w, S w → (S w → wpAnyH P md #[o0, o1, o2, o3, o4, o5, o6, o7, o8, o9, o10, o11, o12, o13, o14, o15] Q S fuel (listed.setIfInBounds 3 true) a w) → K' a w) → if Region.wanted o3 (yielded #[o0, o1, o2, o3, o4, o5, o6, o7, o8, o9, o10, o11, o12, o13, o14, o15] a.tmps) = true then Oper.wp P o3 a w K' Q else K' (a.put o3.dst undef) w) (h2 : ∀ K' : Act → World → Prop, Shut (∀ a w, S w → (S w → wpAnyH P md #[o0, o1, o2, o3, o4, o5, o6, o7, o8, o9, o10, o11, o12, o13, o14, o15] Q S fuel (listed.setIfInBounds 11 true) a w) → K' a w) → if Region.wanted o11 (yielded #[o0, o1, o2, o3, o4, o5, o6, o7, o8, o9, o10, o11, o12, o13, o14, o15] a.tmps) = true then Oper.wp P o11 a w K' Q else K' (a.put o11.dst undef) w) : wpAnyH P md #[o0, o1, o2, o3, o4, o5, o6, o7, o8, o9, o10, o11, o12, o13, o14, o15] Q S (fuel + 1) listed a w := wpAnyH_ready hr (by simp) (AllReadyH.cons (o := o3) rfl h (AllReadyH.cons (o := o11) rfl h2 AllReadyH.nil))
end
end Go.Proofs.YtphnnbbgcnilgaaDoor.LstR16

namespace Go.Proofs.YtphnnbbgcnilgaaDoor.LstR21
open Go Go.RowKit
set_option linter.unusedVariables false
section
variable {P : Program} {md : Region.Mode} {o0 o1 o2 o3 o4 o5 o6 o7 o8 o9 o10 o11 o12 o13 o14 o15 o16 o17 o18 o19 o20 : Oper} {Q : Exit → Act → World → Prop} {S : World → Prop} {fuel : Nat} {listed : Array Bool} {a : Act} {w : World} {v : Value}
theorem tk0 (hs : Region.noSelect #[o0, o1, o2, o3, o4, o5, o6, o7, o8, o9, o10, o11, o12, o13, o14, o15, o16, o17, o18, o19, o20] = true) (hf : Region.free md #[o0, o1, o2, o3, o4, o5, o6, o7, o8, o9, o10, o11, o12, o13, o14, o15, o16, o17, o18, o19, o20] listed 0 = true) (hr : (Region.ready md #[o0, o1, o2, o3, o4, o5, o6, o7, o8, o9, o10, o11, o12, o13, o14, o15, o16, o17, o18, o19, o20] listed).contains 0 = true) (hQ : ∀ c a w, Q (.panic c) (a.put o0.dst v) w → Q (.panic c) a w) (hy : YieldsIf P #[o0, o1, o2, o3, o4, o5, o6, o7, o8, o9, o10, o11, o12, o13, o14, o15, o16, o17, o18, o19, o20] S o0 v a) (hS : S w) (h : wpAnyH P md #[o0, o1, o2, o3, o4, o5, o6, o7, o8, o9, o10, o11, o12, o13, o14, o15, o16, o17, o18, o19, o20] Q S fuel (listed.setIfInBounds 0 true) (a.put o0.dst v) w) : wpAnyH P md #[o0, o1, o2, o3, o4, o5, o6, o7, o8, o9, o10, o11, o12, o13, o14, o15, o16, o17, o18, o19, o20] Q S (fuel + 1) listed a w := wpAnyH_take (i := 0) (oi := o0) rfl hs hf hr hQ hy hS h
theorem tk1 (hs : Region.noSelect #[o0, o1, o2, o3, o4, o5, o6, o7, o8, o9, o10, o11, o12, o13, o14, o15, o16, o17, o18, o19, o20] = true) (hf : Region.free md #[o0, o1, o2, o3, o4, o5, o6, o7, o8, o9, o10, o11, o12, o13, o14, o15, o16, o17, o18, o19, o20] listed 1 = true) (hr : (Region.ready md #[o0, o1, o2, o3, o4, o5, o6, o7, o8, o9, o10, o11, o12, o13, o14, o15, o16, o17, o18, o19, o20] listed).contains 1 = true) (hQ : ∀ c a w, Q (.panic c) (a.put o1.dst v) w → Q (.panic c) a w) (hy : YieldsIf P #[o0, o1, o2, o3, o4, o5, o6, o7, o8, o9, o10, o11, o12, o13, o14, o15, o16, o17, o18, o19, o20] S o1 v a) (hS : S w) (h : wpAnyH P md #[o0, o1, o2, o3, o4, o5, o6, o7, o8, o9, o10, o11, o12, o13, o14, o15, o16, o17, o18, o19, o20] Q S fuel (listed.setIfInBounds 1 true) (a.put o1.dst v) w) : wpAnyH P md #[o0, o1, o2, o3, o4, o5, o6, o7, o8, o9, o10, o11, o12, o13, o14, o15, o16, o17, o18, o19, o20] Q S (fuel + 1) listed a w := wpAnyH_take (i := 1) (oi := o1) rfl hs hf hr hQ hy hS h
theorem tk2 (hs : Region.noSelect #[o0, o1, o2, o3, o4, o5, o6, o7, o8, o9, o10, o11, o12, o13, o14, o15, o16, o17, o18, o19, o20] = true) (hf : Region.free md #[o0, o1, o2, o3, o4, o5, o6, o7, o8, o9, o10, o11, o12, o13, o14, o15, o16, o17, o18, o19, o20] listed 2 = true) (hr : (Region.ready md #[o0, o1, o2, o3, o4, o5, o6, o7, o8, o9, o10, o11, o12, o13, o14, o15, o16, o17, o18, o19, o20] listed).contains 2 = true) (hQ : ∀ c a w, Q (.panic c) (a.put o2.dst v) w → Q (.panic c) a w) (hy : YieldsIf P #[o0, o1, o2, o3, o4, o5, o6, o7, o8, o9, o10, o11, o12, o13, o14, o15, o16, o17, o18, o19, o20] S o2 v a) (hS : S w) (h : wpAnyH P md #[o0, o1, o2, o3, o4, o5, o6, o7, o8, o9, o10, o11, o12, o13, o14, o15, o16, o17, o18, o19, o20] Q S fuel (listed.setIfInBounds 2 true) (a.put o2.dst v) w) : wpAnyH P md #[o0, o1, o2, o3, o4, o5, o6, o7, o8, o9, o10, o11, o12, o13, o14, o15, o16, o17, o18, o19, o20] Q S (fuel + 1) listed a w := wpAnyH_take (i := 2) (oi := o2) rfl hs hf hr hQ hy hS h
theorem tk3 (hs : Region.noSelect #[o0, o1, o2, o3, o4, o5, o6, o7, o8, o9, o10, o11, o12, o13, o14, o15, o16, o17, o18, o19, o20] = true) (hf : Region.free md #[o0, o1, o2, o3, o4, o5, o6, o7, o8, o9, o10, o11, o12, o13, o14, o15, o16, o17, o18, o19, o20] listed 3 = true) (hr : (Region.ready md #[o0, o1, o2, o3, o4, o5, o6, o7, o8, o9, o10, o11, o12, o13, o14, o15, o16, o17, o18, o19, o20] listed).contains 3 = true) (hQ : ∀ c a w, Q (.panic c) (a.put o3.dst v) w → Q (.panic c) a w) (hy : YieldsIf P #[o0, o1, o2, o3, o4, o5, o6, o7, o8, o9, o10, o11, o12, o13, o14, o15, o16, o17, o18, o19, o20] S o3 v a) (hS : S w) (h : wpAnyH P md #[o0, o1, o2, o3, o4, o5, o6, o7, o8, o9, o10, o11, o12, o13, o14, o15, o16, o17, o18, o19, o20] Q S fuel (listed.setIfInBounds 3 true) (a.put o3.dst v) w) : wpAnyH P md #[o0, o1, o2, o3, o4, o5, o6, o7, o8, o9, o10, o11, o12, o13, o14, o15, o16, o17, o18, o19, o20] Q S (fuel + 1) listed a w := wpAnyH_take (i := 3) (oi := o3) rfl hs hf hr hQ hy hS h
theorem ac3 (hr : Region.ready md #[o0, o1, o2, o3, o4, o5, o6, o7, o8, o9, o10, o11, o12, o13, o14, o15, o16, o17, o18, o19, o20] listed = [3]) (h : ∀ K' : Act → World → Prop, Shut (∀ a w, S w → (S w → wpAnyH P md #[o0, o1, o2, o3, o4, o5, o6, o7, o8, o9, o10, o11, o12, o13, o14, o15, o16, o17, o18, o19, o20] Q S fuel (listed.setIfInBounds 3 true) a w) → K' a w) → if Region.wanted o3 (yielded #[o0, o1, o2, o3, o4, o5, o6, o7, o8, o9, o10, o11, o12, o13, o14, o15, o16, o17, o18, o19, o20] a.tmps) = true then Oper.wp P o3 a w K' Q else K' (a.put o3.dst undef) w) : wpAnyH P md #[o0, o1, o2, o3, o4, o5, o6, o7, o8, o9, o10, o11, o12, o13, o14, o15, o16, o17, o18, o19, o20] Q S (fuel + 1) listed a w := wpAnyH_ready hr (by simp) (AllReadyH.cons (o := o3) rfl h AllReadyH.nil)
theorem tk4 (hs : Region.noSelect #[o0, o1, o2, o3, o4, o5, o6, o7, o8, o9, o10, o11, o12, o13, o14, o15, o16, o17, o18, o19, o20] = true) (hf : Region.free md #[o0, o1, o2, o3, o4, o5, o6, o7, o8, o9, o10, o11, o12, o13, o14, o15, o16, o17, o18, o19, o20] listed 4 = true) (hr : (Region.ready md #[o0, o1, o2, o3, o4, o5, o6, o7, o8, o9, o10, o11, o12, o13, o14, o15, o16, o17, o18, o19, o20] listed).contains 4 = true) (hQ : ∀ c a w, Q (.panic c) (a.put o4.dst v) w → Q (.panic c) a w) (hy : YieldsIf P #[o0, o1, o2, o3, o4, o5, o6, o7, o8, o9, o10, o11, o12, o13, o14, o15, o16, o17, o18, o19, o20] S o4 v a) (hS : S w) (h : wpAnyH P md #[o0, o1, o2, o3, o4, o5, o6, o7, o8, o9, o10, o11, o12, o13, o14, o15, o16, o17, o18, o19, o20] Q S fuel (listed.setIfInBounds 4 true) (a.put o4.dst v) w) : wpAnyH P md #[o0, o1, o2, o3, o4, o5, o6, o7, o8, o9, o10, o11, o12, o13, o14, o15, o16, o17, o18, o19, o20] Q S (fuel + 1) listed a w := wpAnyH_take (i := 4) (oi := o4) rfl hs hf hr hQ hy hS h
theorem ac4 (hr : Region.ready md #[o0, o1, o2, o3, o4, o5, o6, o7, o8, o9, o10, o11, o12, o13, o14, o15, o16, o17, o18, o19, o20] listed = [4]) (h : ∀ K' : Act → World → Prop, Shut (∀ a w, S w → (S w → wpAnyH P md #[o0, o1, o2, o3, o4, o5, o6, o7, o8, o9, o10, o11, o12, o13, o14, o15, o16, o17, o18, o19, o20] Q S fuel (listed.setIfInBounds 4 true) a w) → K' a w) → if Region.wanted o4 (yielded #[o0, o1, o2, o3, o4, o5, o6, o7, o8, o9, o10, o11, o12, o13, o14, o15, o16, o17, o18, o19, o20] a.tmps) = true then Oper.wp P o4 a w K' Q else K' (a.put o4.dst undef) w) : wpAnyH P md #[o0, o1, o2, o3, o4, o5, o6, o7, o8, o9, o10, o11, o12, o13, o14, o15, o16, o17, o18, o19, o20] Q S (fuel + 1) listed a w := wpAnyH_ready hr (by simp) (AllReadyH.cons (o := o4) rfl h AllReadyH.nil)
theorem tk5 (hs : Region.noSelect #[o0, o1, o2, o3, o4, o5, o6, o7, o8, o9, o10, o11, o12, o13, o14, o15, o16, o17, o18, o19, o20] = true) (hf : Region.free md #[o0, o1, o2, o3, o4, o5, o6, o7, o8, o9, o10, o11, o12, o13, o14, o15, o16, o17, o18, o19, o20] listed 5 = true) (hr : (Region.ready md #[o0, o1, o2, o3, o4, o5, o6, o7, o8, o9, o10, o11, o12, o13, o14, o15, o16, o17, o18, o19, o20] listed).contains 5 = true) (hQ : ∀ c a w, Q (.panic c) (a.put o5.dst v) w → Q (.panic c) a w) (hy : YieldsIf P #[o0, o1, o2, o3, o4, o5, o6, o7, o8, o9, o10, o11, o12, o13, o14, o15, o16, o17, o18, o19, o20] S o5 v a) (hS : S w) (h : wpAnyH P md #[o0, o1, o2, o3, o4, o5, o6, o7, o8, o9, o10, o11, o12, o13, o14, o15, o16, o17, o18, o19, o20] Q S fuel (listed.setIfInBounds 5 true) (a.put o5.dst v) w) : wpAnyH P md #[o0, o1, o2, o3, o4, o5, o6, o7, o8, o9, o10, o11, o12, o13, o14, o15, o16, o17, o18, o19, o20] Q S (fuel + 1) listed a w := wpAnyH_take (i := 5) (oi := o5) rfl hs hf hr hQ hy hS h
theorem tk6 (hs : Region.noSelect #[o0, o1, o2, o3, o4, o5, o6, o7, o8, o9, o10, o11, o12, o13, o14, o15, o16, o17, o18, o19, o20] = true) (hf : Region.free md #[o0, o1, o2, o3, o4, o5, o6, o7, o8, o9, o10, o11, o12, o13, o14, o15, o16, o17, o18, o19, o20] listed 6 = true) (hr : (Region.ready md #[o0, o1, o2, o3, o4, o5, o6, o7, o8, o9, o10, o11, o12, o13, o14, o15, o16, o17, o18, o19, o20] listed).contains 6 = true) (hQ : ∀ c a w, Q (.panic c) (a.put o6.dst v) w → Q (.panic c) a w) (hy : YieldsIf P #[o0, o1, o2, o3, o4, o5, o6, o7, o8, o9, o10, o11, o12, o13, o14, o15, o16, o17, o18, o19, o20] S o6 v a) (hS : S w) (h : wpAnyH P md #[o0, o1, o2, o3, o4, o5, o6, o7, o8, o9, o10, o11, o12, o13, o14, o15, o16, o17, o18, o19, o20] Q S fuel (listed.setIfInBounds 6 true) (a.put o6.dst v) w) : wpAnyH P md #[o0, o1, o2, o3, o4, o5, o6, o7, o8, o9, o10, o11, o12, o13, o14, o15, o16, o17, o18, o19, o20] Q S (fuel + 1) listed a w := wpAnyH_take (i := 6) (oi := o6) rfl hs hf hr hQ hy hS h
theorem tk7 (hs : Region.noSelect #[o0, o1, o2, o3, o4, o5, o6, o7, o8, o9, o10, o11, o12, o13, o14, o15, o16, o17, o18, o19, o20] = true) (hf : Region.free md #[o0, o1, o2, o3, o4, o5, o6, o7, o8, o9, o10, o11, o12, o13, o14, o15, o16, o17, o18, o19, o20] listed 7 = true) (hr : (Region.ready md #[o0, o1, o2, o3, o4, o5, o6, o7, o8, o9, o10, o11, o12, o13, o14, o15, o16, o17, o18, o19, o20] listed).contains 7 = true) (hQ : ∀ c a w, Q (.panic c) (a.put o7.dst v) w → Q (.panic c) a w) (hy : YieldsIf P #[o0, o1, o2, o3, o4, o5, o6, o7, o8, o9, o10, o11, o12, o13, o14, o15, o16, o17, o18, o19, o20] S o7 v a) (hS : S w) (h : wpAnyH P md #[o0, o1, o2, o3, o4, o5, o6, o7, o8, o9, o10, o11, o12, o13, o14, o15, o16, o17, o18, o19, o20] Q S fuel (listed.setIfInBounds 7 true) (a.put o7.dst v) w) : wpAnyH P md #[o0, o1, o2, o3, o4, o5, o6, o7, o8, o9, o10, o11, o12, o13, o14, o15, o16, o17, o18, o19, o20] Q S (fuel + 1) listed a w := wpAnyH_take (i := 7) (oi := o7) rfl hs hf hr hQ hy hS h
theorem ac7 (hr : Region.ready md #[o0, o1, o2, o3, o4, o5, o6, o7, o8, o9, o10, o11, o12, o13, o14, o15, o16, o17, o18, o19, o20] listed = [7]) (h : ∀ K' : Act → World → Prop, Shut (∀ a w, S w → (S w → wpAnyH P md #[o0, o1, o2, o3, o4, o5, o6, o7, o8, o9, o10, o11, o12, o13, o14, o15, o16, o17, o18, o19, o20] Q S fuel (listed.setIfInBounds 7 true) a w) → K' a w) → if Region.wanted o7 (yielded #[o0, o1, o2, o3, o4, o5, o6, o7, o8, o9, o10, o11, o12, o13, o14, o15, o16, o17, o18, o19, o20] a.tmps) = true then Oper.wp P o7 a w K' Q else K' (a.put o7.dst undef) w) : wpAnyH P md #[o0, o1, o2, o3, o4, o5, o6, o7, o8, o9, o10, o11, o12, o13, o14, o15, o16, o17, o18, o19, o20] Q S (fuel + 1) listed a w := wpAnyH_ready hr (by simp) (AllReadyH.cons (o := o7) rfl h AllReadyH.nil)
theorem tk8 (hs : Region.noSelect #[o0, o1, o2, o3, o4, o5, o6, o7, o8, o9, o10, o11, o12, o13, o14, o15, o16, o17, o18, o19, o20] = true) (hf : Region.free md #[o0, o1, o2, o3, o4, o5, o6, o7, o8, o9, o10, o11, o12, o13, o14, o15, o16, o17, o18, o19, o20] listed 8 = true) (hr : (Region.ready md #[o0, o1, o2, o3, o4, o5, o6, o7, o8, o9, o10, o11, o12, o13, o14, o15, o16, o17, o18, o19, o20] listed).contains 8 = true) (hQ : ∀ c a w, Q (.panic c) (a.put o8.dst v) w → Q (.panic c) a w) (hy : YieldsIf P #[o0, o1, o2, o3, o4, o5, o6, o7, o8, o9, o10, o11, o12, o13, o14, o15, o16, o17, o18, o19, o20] S o8 v a) (hS : S w) (h : wpAnyH P md #[o0, o1, o2, o3, o4, o5, o6, o7, o8, o9, o10, o11, o12, o13, o14, o15, o16, o17, o18, o19, o20] Q S fuel (listed.setIfInBounds 8 true) (a.put o8.dst v) w) : wpAnyH P md #[o0, o1, o2, o3, o4, o5, o6, o7, o8, o9, o10, o11, o12, o13, o14, o15, o16, o17, o18, o19, o20] Q S (fuel + 1) listed a w := wpAnyH_take (i := 8) (oi := o8) rfl hs hf hr hQ hy hS h
theorem ac8 (hr : Region.ready md #[o0, o1, o2, o3, o4, o5, o6, o7, o8, o9, o10, o11, o12, o13, o14, o15, o16, o17, o18, o19, o20] listed = [8]) (h : ∀ K' : Act → World → Prop, Shut (∀ a w, S w → (S w → wpAnyH P md #[o0, o1, o2, o3, o4, o5, o6, o7, o8, o9, o10, o11, o12, o13, o14, o15, o16, o17, o18, o19, o20] Q S fuel (listed.setIfInBounds 8 true) a w) → K' a w) → if Region.wanted o8 (yielded #[o0, o1, o2, o3, o4, o5, o6, o7, o8, o9, o10, o11, o12, o13, o14, o15, o16, o17, o18, o19, o20] a.tmps) = true then Oper.wp P o8 a w K' Q else K' (a.put o8.dst undef) w) : wpAnyH P md #[o0, o1, o2, o3, o4, o5, o6, o7, o8, o9, o10, o11, o12, o13, o14, o15, o16, o17, o18, o19, o20] Q S (fuel + 1) listed a w := wpAnyH_ready hr (by simp) (AllReadyH.cons (o := o8) rfl h AllReadyH.nil)
theorem tk9 (hs : Region.noSelect #[o0, o1, o2, o3, o4, o5, o6, o7, o8, o9, o10, o11, o12, o13, o14, o15, o16, o17, o18, o19, o20] = true) (hf : Region.free md #[o0, o1, o2, o3, o4, o5, o6, o7, o8, o9, o10, o11, o12, o13, o14, o15, o16, o17, o18, o19, o20] listed 9 = true) (hr : (Region.ready md #[o0, o1, o2, o3, o4, o5, o6, o7, o8, o9, o10, o11, o12, o13, o14, o15, o16, o17, o18, o19, o20] listed).contains 9 = true) (hQ : ∀ c a w, Q (.panic c) (a.put o9.dst v) w → Q (.panic c) a w) (hy : YieldsIf P #[o0, o1, o2, o3, o4, o5, o6, o7, o8, o9, o10, o11, o12, o13, o14, o15, o16, o17, o18, o19, o20] S o9 v a) (hS : S w) (h : wpAnyH P md #[o0, o1, o2, o3, o4, o5, o6, o7, o8, o9, o10, o11, o12, o13, o14, o15, o16, o17, o18, o19, o20] Q S fuel (listed.setIfInBounds 9 true) (a.put o9.dst v) w) : wpAnyH P md #[o0, o1, o2, o3, o4, o5, o6, o7, o8, o9, o10, o11, o12, o13, o14, o15, o16, o17, o18, o19, o20] Q S (fuel + 1) listed a w := wpAnyH_take (i := 9) (oi := o9) rfl hs hf hr hQ hy hS h
theorem ac9 (hr : Region.ready md #[o0, o1, o2, o3, o4, o5, o6, o7, o8, o9, o10, o11, o12, o13, o14, o15, o16, o17, o18, o19, o20] listed = [9]) (h : ∀ K' : Act → World → Prop, Shut (∀ a w, S w → (S w → wpAnyH P md #[o0, o1, o2, o3, o4, o5, o6, o7, o8, o9, o10, o11, o12, o13, o14, o15, o16, o17, o18, o19, o20] Q S fuel (listed.setIfInBounds 9 true) a w) → K' a w) → if Region.wanted o9 (yielded #[o0, o1, o2, o3, o4, o5, o6, o7, o8, o9, o10, o11, o12, o13, o14, o15, o16, o17, o18, o19, o20] a.tmps) = true then Oper.wp P o9 a w K' Q else K' (a.put o9.dst undef) w) : wpAnyH P md #[o0, o1, o2, o3, o4, o5, o6, o7, o8, o9, o10, o11, o12, o13, o14, o15, o16, o17, o18, o19, o20] Q S (fuel + 1) listed a w := wpAnyH_ready hr (by simp) (AllReadyH.cons (o := o9) rfl h AllReadyH.nil)
theorem tk10 (hs : Region.noSelect #[o0, o1, o2, o3, o4, o5, o6, o7, o8, o9, o10, o11, o12, o13, o14, o15, o16, o17, o18, o19, o20] = true) (hf : Region.free md #[o0, o1, o2, o3, o4, o5, o6, o7, o8, o9, o10, o11, o12, o13, o14, o15, o16, o17, o18, o19, o20] listed 10 = true) (hr : (Region.ready md #[o0, o1, o2, o3, o4, o5, o6, o7, o8, o9, o10, o11, o12, o13, o14, o15, o16, o17, o18, o19, o20] listed).contains 10 = true) (hQ : ∀ c a w, Q (.panic c) (a.put o10.dst v) w → Q (.panic c) a w) (hy : YieldsIf P #[o0, o1, o2, o3, o4, o5, o6, o7, o8, o9, o10, o11, o12, o13, o14, o15, o16, o17, o18, o19, o20] S o10 v a) (hS : S w) (h : wpAnyH P md #[o0, o1, o2, o3, o4, o5, o6, o7, o8, o9, o10, o11, o12, o13, o14, o15, o16, o17, o18, o19, o20] Q S fuel (listed.setIfInBounds 10 true) (a.put o10.dst v) w) : wpAnyH P md #[o0, o1, o2, o3, o4, o5, o6, o7, o8, o9, o10, o11, o12, o13, o14, o15, o16, o17, o18, o19, o20] Q S (fuel + 1) listed a w := wpAnyH_take (i := 10) (oi := o10) rfl hs hf hr hQ hy hS h
theorem tk11 (hs : Region.noSelect #[o0, o1, o2, o3, o4, o5, o6, o7, o8, o9, o10, o11, o12, o13, o14, o15, o16, o17, o18, o19, o20] = true) (hf : Region.free md #[o0, o1, o2, o3, o4, o5, o6, o7, o8, o9, o10, o11, o12, o13, o14, o15, o16, o17, o18, o19, o20] listed 11 = true) (hr : (Region.ready md #[o0, o1, o2, o3, o4, o5, o6, o7, o8, o9, o10, o11, o12, o13, o14, o15, o16, o17, o18, o19, o20] listed).contains 11 = true) (hQ : ∀ c a w, Q (.panic c) (a.put o11.dst v) w → Q (.panic c) a w) (hy : YieldsIf P #[o0, o1, o2, o3, o4, o5, o6, o7, o8, o9, o10, o11, o12, o13, o14, o15, o16, o17, o18, o19, o20] S o11 v a) (hS : S w) (h : wpAnyH P md #[o0, o1, o2, o3, o4, o5, o6, o7, o8, o9, o10, o11, o12, o13, o14, o15, o16, o17, o18, o19, o20] Q S fuel (listed.setIfInBounds 11 true) (a.put o11.dst v) w) : wpAnyH P md #[o0, o1, o2, o3, o4, o5, o6, o7, o8, o9, o10, o11, o12, o13, o14, o15, o16, o17, o18, o19, o20] Q S (fuel + 1) listed a w := wpAnyH_take (i := 11) (oi := o11) rfl hs hf hr hQ hy hS h
theorem ac11 (hr : Region.ready md #[o0, o1, o2, o3, o4, o5, o6, o7, o8, o9, o10, o11, o12, o13, o14, o15, o16, o17, o18, o19, o20] listed = [11]) (h : ∀ K' : Act → World → Prop, Shut (∀ a w, S w → (S w → wpAnyH P md #[o0, o1, o2, o3, o4, o5, o6, o7, o8, o9, o10, o11, o12, o13, o14, o15, o16, o17, o18, o19, o20] Q S fuel (listed.setIfInBounds 11 true) a w) → K' a w) → if Region.wanted o11 (yielded #[o0, o1, o2, o3, o4, o5, o6, o7, o8, o9, o10, o11, o12, o13, o14, o15, o16, o17, o18, o19, o20] a.tmps) = true then Oper.wp P o11 a w K' Q else K' (a.put o11.dst undef) w) : wpAnyH P md #[o0, o1, o2, o3, o4, o5, o6, o7, o8, o9, o10, o11, o12, o13, o14, o15, o16, o17, o18, o19, o20] Q S (fuel + 1) listed a w := wpAnyH_ready hr (by simp) (AllReadyH.cons (o := o11) rfl h AllReadyH.nil)
theorem tk12 (hs : Region.noSelect #[o0, o1, o2, o3, o4, o5, o6, o7, o8, o9, o10, o11, o12, o13, o14, o15, o16, o17, o18, o19, o20] = true) (hf : Region.free md #[o0, o1, o2, o3, o4, o5, o6, o7, o8, o9, o10, o11, o12, o13, o14, o15, o16, o17, o18, o19, o20] listed 12 = true) (hr : (Region.ready md #[o0, o1, o2, o3, o4, o5, o6, o7, o8, o9, o10, o11, o12, o13, o14, o15, o16, o17, o18, o19, o20] listed).contains 12 = true) (hQ : ∀ c a w, Q (.panic c) (a.put o12.dst v) w → Q (.panic c) a w) (hy : YieldsIf P #[o0, o1, o2, o3, o4, o5, o6, o7, o8, o9, o10, o11, o12, o13, o14, o15, o16, o17, o18, o19, o20] S o12 v a) (hS : S w) (h : wpAnyH P md #[o0, o1, o2, o3, o4, o5, o6, o7, o8, o9, o10, o11, o12, o13, o14, o15, o16, o17, o18, o19, o20] Q S fuel (listed.setIfInBounds 12 true) (a.put o12.dst v) w) : wpAnyH P md #[o0, o1, o2, o3, o4, o5, o6, o7, o8, o9, o10, o11, o12, o13, o14, o15, o16, o17, o18, o19, o20] Q S (fuel + 1) listed a w := wpAnyH_take (i := 12) (oi := o12) rfl hs hf hr hQ hy hS h
theorem ac12 (hr : Region.ready md #[o0, o1, o2, o3, o4, o5, o6, o7, o8, o9, o10, o11, o12, o13, o14, o15, o16, o17, o18, o19, o20] listed = [12]) (h : ∀ K' : Act → World → Prop, Shut (∀ a w, S w → (S w → wpAnyH P md #[o0, o1, o2, o3, o4, o5, o6, o7, o8, o9, o10, o11, o12, o13, o14, o15, o16, o17, o18, o19, o20] Q S fuel (listed.setIfInBounds 12 true) a w) → K' a w) → if Region.wanted o12 (yielded #[o0, o1, o2, o3, o4, o5, o6, o7, o8, o9, o10, o11, o12, o13, o14, o15, o16, o17, o18, o19, o20] a.tmps) = true then Oper.wp P o12 a w K' Q else K' (a.put o12.dst undef) w) : wpAnyH P md #[o0, o1, o2, o3, o4, o5, o6, o7, o8, o9, o10, o11, o12, o13, o14, o15, o16, o17, o18, o19, o20] Q S (fuel + 1) listed a w := wpAnyH_ready hr (by simp) (AllReadyH.cons (o := o12) rfl h AllReadyH.nil)
theorem tk13 (hs : Region.noSelect #[o0, o1, o2, o3, o4, o5, o6, o7, o8, o9, o10, o11, o12, o13, o14, o15, o16, o17, o18, o19, o20] = true) (hf : Region.free md #[o0, o1, o2, o3, o4, o5, o6, o7, o8, o9, o10, o11, o12, o13, o14, o15, o16, o17, o18, o19, o20] listed 13 = true) (hr : (Region.ready md #[o0, o1, o2, o3, o4, o5, o6, o7, o8, o9, o10, o11, o12, o13, o14, o15, o16, o17, o18, o19, o20] listed).contains 13 = true) (hQ : ∀ c a w, Q (.panic c) (a.put o13.dst v) w → Q (.panic c) a w) (hy : YieldsIf P #[o0, o1, o2, o3, o4, o5, o6, o7, o8, o9, o10, o11, o12, o13, o14, o15, o16, o17, o18, o19, o20] S o13 v a) (hS : S w) (h : wpAnyH P md #[o0, o1, o2, o3, o4, o5, o6, o7, o8, o9, o10, o11, o12, o13, o14, o15, o16, o17, o18, o19, o20] Q S fuel (listed.setIfInBounds 13 true) (a.put o13.dst v) w) : wpAnyH P md #[o0, o1, o2, o3, o4, o5, o6, o7, o8, o9, o10, o11, o12, o13, o14, o15, o16, o17, o18, o19, o20] Q S (fuel + 1) listed a w := wpAnyH_take (i := 13) (oi := o13) rfl hs hf hr hQ hy hS h
theorem tk14 (hs : Region.noSelect #[o0, o1, o2, o3, o4, o5, o6, o7, o8, o9, o10, o11, o12, o13, o14, o15, o16, o17, o18, o19, o20] = true) (hf : Region.free md #[o0, o1, o2, o3, o4, o5, o6, o7, o8, o9, o10, o11, o12, o13, o14, o15, o16, o17, o18, o19, o20] listed 14 = true) (hr : (Region.ready md #[o0, o1, o2, o3, o4, o5, o6, o7, o8, o9, o10, o11, o12, o13, o14, o15, o16, o17, o18, o19, o20] listed).contains 14 = true) (hQ : ∀ c a w, Q (.panic c) (a.put o14.dst v) w → Q (.panic c) a w) (hy : YieldsIf P #[o0, o1, o2, o3, o4, o5, o6, o7, o8, o9, o10, o11, o12, o13, o14, o15, o16, o17, o18, o19, o20] S o14 v a) (hS : S w) (h : wpAnyH P md #[o0, o1, o2, o3, o4, o5, o6, o7, o8, o9, o10, o11, o12, o13, o14, o15, o16, o17, o18, o19, o20] Q S fuel (listed.setIfInBounds 14 true) (a.put o14.dst v) w) : wpAnyH P md #[o0, o1, o2, o3, o4, o5, o6, o7, o8, o9, o10, o11, o12, o13, o14, o15, o16, o17, o18, o19, o20] Q S (fuel + 1) listed a w := wpAnyH_take (i := 14) (oi := o14) rfl hs hf hr hQ hy hS h
theorem tk15 (hs : Region.noSelect #[o0, o1, o2, o3, o4, o5, o6, o7, o8, o9, o10, o11, o12, o13, o14, o15, o16, o17, o18, o19, o20] = true) (hf : Region.free md #[o0, o1, o2, o3, o4, o5, o6, o7, o8, o9, o10, o11, o12, o13, o14, o15, o16, o17, o18, o19, o20] listed 15 = true) (hr : (Region.ready md #[o0, o1, o2, o3, o4, o5, o6, o7, o8, o9, o10, o11, o12, o13, o14, o15, o16, o17, o18, o19, o20] listed).contains 15 = true) (hQ : ∀ c a w, Q (.panic c) (a.put o15.dst v) w → Q (.panic c) a w) (hy : YieldsIf P #[o0, o1, o2, o3, o4, o5, o6, o7, o8, o9, o10, o11, o12, o13, o14, o15, o16, o17, o18, o19, o20] S o15 v a) (hS : S w) (h : wpAnyH P md #[o0, o1, o2, o3, o4, o5, o6, o7, o8, o9, o10, o11, o12, o13, o14, o15, o16, o17, o18, o19, o20] Q S fuel (listed.setIfInBounds 15 true) (a.put o15.dst v) w) : wpAnyH P md #[o0, o1, o2, o3, o4, o5, o6, o7, o8, o9, o10, o11, o12, o13, o14, o15, o16, o17, o18, o19, o20] Q S (fuel + 1) listed a w := wpAnyH_take (i := 15) (oi := o15) rfl hs hf hr hQ hy hS h
theorem ac15 (hr : Region.ready md #[o0, o1, o2, o3, o4, o5, o6, o7, o8, o9, o10, o11, o12, o13, o14, o15, o16, o17, o18, o19, o20] listed = [15]) (h : ∀ K' : Act → World → Prop, Shut (∀ a w, S w → (S w → wpAnyH P md #[o0, o1, o2, o3, o4, o5, o6, o7, o8, o9, o10, o11, o12, o13, o14, o15, o16, o17, o18, o19, o20] Q S fuel (listed.setIfInBounds 15 true) a w) → K' a w) → if Region.wanted o15 (yielded #[o0, o1, o2, o3, o4, o5, o6, o7, o8, o9, o10, o11, o12, o13, o14, o15, o16, o17, o18, o19, o20] a.tmps) = true then Oper.wp P o15 a w K' Q else K' (a.put o15.dst undef) w) : wpAnyH P md #[o0, o1, o2, o3, o4, o5, o6, o7, o8, o9, o10, o11, o12, o13, o14, o15, o16, o17, o18, o19, o20] Q S (fuel + 1) listed a w := wpAnyH_ready hr (by simp) (AllReadyH.cons (o := o15) rfl h AllReadyH.nil)
theorem tk16 (hs : Region.noSelect #[o0, o1, o2, o3, o4, o5, o6, o7, o8, o9, o10, o11, o12, o13, o14, o15, o16, o17, o18, o19, o20] = true) (hf : Region.free md #[o0, o1, o2, o3, o4, o5, o6, o7, o8, o9, o10, o11, o12, o13, o14, o15, o16, o17, o18, o19, o20] listed 16 = true) (hr : (Region.ready md #[o0, o1, o2, o3, o4, o5, o6, o7, o8, o9, o10, o11, o12, o13, o14, o15, o16, o17, o18, o19, o20] listed).contains 16 = true) (hQ : ∀ c a w, Q (.panic c) (a.put o16.dst v) w → Q (.panic c) a w) (hy : YieldsIf P #[o0, o1, o2, o3, o4, o5, o6, o7, o8, o9, o10, o11, o12, o13, o14, o15, o16, o17, o18, o19, o20] S o16 v a) (hS : S w) (h : wpAnyH P md #[o0, o1, o2, o3, o4, o5, o6, o7, o8, o9, o10, o11, o12, o13, o14, o15, o16, o17, o18, o19, o20] Q S fuel (listed.setIfInBounds 16 true) (a.put o16.dst v) w) : wpAnyH P md #[o0, o1, o2, o3, o4, o5, o6, o7, o8, o9, o10, o11, o12, o13, o14, o15, o16, o17, o18, o19, o20] Q S (fuel + 1) listed a w := wpAnyH_take (i := 16) (oi := o16) rfl hs hf hr hQ hy hS h
theorem tk17 (hs : Region.noSelect #[o0, o1, o2, o3, o4, o5, o6, o7, o8, o9, o10, o11, o12, o13, o14, o15, o16, o17, o18, o19, o20] = true) (hf : Region.free md #[o0, o1, o2, o3, o4, o5, o6, o7, o8, o9, o10, o11, o12, o13, o14, o15, o16, o17, o18, o19, o20] listed 17 = true) (hr : (Region.ready md #[o0, o1, o2, o3, o4, o5, o6, o7, o8, o9, o10, o11, o12, o13, o14, o15, o16, o17, o18, o19, o20] listed).contains 17 = true) (hQ : ∀ c a w, Q (.panic c) (a.put o17.dst v) w → Q (.panic c) a w) (hy : YieldsIf P #[o0, o1, o2, o3, o4, o5, o6, o7, o8, o9, o10, o11, o12, o13, o14, o15, o16, o17, o18, o19, o20] S o17 v a) (hS : S w) (h : wpAnyH P md #[o0, o1, o2, o3, o4, o5, o6, o7, o8, o9, o10, o11, o12, o13, o14, o15, o16, o17, o18, o19, o20] Q S fuel (listed.setIfInBounds 17 true) (a.put o17.dst v) w) : wpAnyH P md #[o0, o1, o2, o3, o4, o5, o6, o7, o8, o9, o10, o11, o12, o13, o14, o15, o16, o17, o18, o19, o20] Q S (fuel + 1) listed a w := wpAnyH_take (i := 17) (oi := o17) rfl hs hf hr hQ hy hS h
theorem tk18 (hs : Region.noSelect #[o0, o1, o2, o3, o4, o5, o6, o7, o8, o9, o10, o11, o12, o13, o14, o15, o16, o17, o18, o19, o20] = true) (hf : Region.free md #[o0, o1, o2, o3, o4, o5, o6, o7, o8, o9, o10, o11, o12, o13, o14, o15, o16, o17, o18, o19, o20] listed 18 = true) (hr : (Region.ready md #[o0, o1, o2, o3, o4, o5, o6, o7, o8, o9, o10, o11, o12, o13, o14, o15, o16, o17, o18, o19, o20] listed).contains 18 = true) (hQ : ∀ c a w, Q (.panic c) (a.put o18.dst v) w → Q (.panic c) a w) (hy : YieldsIf P #[o0, o1, o2, o3, o4, o5, o6, o7, o8, o9, o10, o11, o12, o13, o14, o15, o16, o17, o18, o19, o20] S o18 v a) (hS : S w) (h : wpAnyH P md #[o0, o1, o2, o3, o4, o5, o6, o7, o8, o9, o10, o11, o12, o13, o14, o15, o16, o17, o18, o19, o20] Q S fuel (listed.setIfInBounds 18 true) (a.put o18.dst v) w) : wpAnyH P md #[o0, o1, o2, o3, o4, o5, o6, o7, o8, o9, o10, o11, o12, o13, o14, o15, o16, o17, o18, o19, o20] Q S (fuel + 1) listed a w := wpAnyH_take (i := 18) (oi := o18) rfl hs hf hr hQ hy hS h
theorem tk19 (hs : Region.noSelect #[o0, o1, o2, o3, o4, o5, o6, o7, o8, o9, o10, o11, o12, o13, o14, o15, o16, o17, o18, o19, o20] = true) (hf : Region.free md #[o0, o1, o2, o3, o4, o5, o6, o7, o8, o9, o10, o11, o12, o13, o14, o15, o16, o17, o18, o19, o20] listed 19 = true) (hr : (Region.ready md #[o0, o1, o2, o3, o4, o5, o6, o7, o8, o9, o10, o11, o12, o13, o14, o15, o16, o17, o18, o19, o20] listed).contains 19 = true) (hQ : ∀ c a w, Q (.panic c) (a.put o19.dst v) w → Q (.panic c) a w) (hy : YieldsIf P #[o0, o1, o2, o3, o4, o5, o6, o7, o8, o9, o10, o11, o12, o13, o14, o15, o16, o17, o18, o19, o20] S o19 v a) (hS : S w) (h : wpAnyH P md #[o0, o1, o2, o3, o4, o5, o6, o7, o8, o9, o10, o11, o12, o13, o14, o15, o16, o17, o18, o19, o20] Q S fuel (listed.setIfInBounds 19 true) (a.put o19.dst v) w) : wpAnyH P md #[o0, o1, o2, o3, o4, o5, o6, o7, o8, o9, o10, o11, o12, o13, o14, o15, o16, o17, o18, o19, o20] Q S (fuel + 1) listed a w := wpAnyH_take (i := 19) (oi := o19) rfl hs hf hr hQ hy hS h
theorem tk20 (hs : Region.noSelect #[o0, o1, o2, o3, o4, o5, o6, o7, o8, o9, o10, o11, o12, o13, o14, o15, o16, o17, o18, o19, o20] = true) (hf : Region.free md #[o0, o1, o2, o3, o4, o5, o6, o7, o8, o9, o10, o11, o12, o13, o14, o15, o16, o17, o18, o19, o20] listed 20 = true) (hr : (Region.ready md #[o0, o1, o2, o3, o4, o5, o6, o7, o8, o9, o10, o11, o12, o13, o14, o15, o16, o17, o18, o19, o20] listed).contains 20 = true) (hQ : ∀ c a w, Q (.panic c) (a.put o20.dst v) w → Q (.panic c) a w) (hy : YieldsIf P #[o0, o1, o2, o3, o4, o5, o6, o7, o8, o9, o10, o11, o12, o13, o14, o15, o16, o17, o18, o19, o20] S o20 v a) (hS : S w) (h : wpAnyH P md #[o0, o1, o2, o3, o4, o5, o6, o7, o8, o9, o10, o11, o12, o13, o14, o15, o16, o17, o18, o19, o20] Q S fuel (listed.setIfInBounds 20 true) (a.put o20.dst v) w) : wpAnyH P md #[o0, o1, o2, o3, o4, o5, o6, o7, o8, o9, o10, o11, o12, o13, o14, o15, o16, o17, o18, o19, o20] Q S (fuel + 1) listed a w := wpAnyH_take (i := 20) (oi := o20) rfl hs hf hr hQ hy hS h
theorem ac20 (hr : Region.ready md #[o0, o1, o2, o3, o4, o5, o6, o7, o8, o9, o10, o11, o12, o13, o14, o15, o16, o17, o18, o19, o20] listed = [20]) (h : ∀ K' : Act → World → Prop, Shut (∀ a w, S w → (S w → wpAnyH P md #[o0, o1, o2, o3, o4, o5, o6, o7, o8, o9, o10, o11, o12, o13, o14, o15, o16, o17, o18, o19, o20] Q S fuel (listed.setIfInBounds 20 true) a w) → K' a w) → if Region.wanted o20 (yielded #[o0, o1, o2, o3, o4, o5, o6, o7, o8, o9, o10, o11, o12, o13, o14, o15, o16, o17, o18, o19, o20] a.tmps) = true then Oper.wp P o20 a w K' Q else K' (a.put o20.dst undef) w) : wpAnyH P md #[o0, o1, o2, o3, o4, o5, o6, o7, o8, o9, o10, o11, o12, o13, o14, o15, o16, o17, o18, o19, o20] Q S (fuel + 1) listed a w := wpAnyH_ready hr (by simp) (AllReadyH.cons (o := o20) rfl h AllReadyH.nil)
theorem ac3_11 (hr : Region.ready md #[o0, o1, o2, o3, o4, o5, o6, o7, o8, o9, o10, o11, o12, o13, o14, o15, o16, o17, o18, o19, o20] listed = [3, 11]) (h : ∀ K' : Act → World → Prop, Shut (∀ a w, S w → (S w → wpAnyH P md #[o0, o1, o2, o3, o4, o5, o6, o7, o8, o9, o10, o11, o12, o13, o14, o15, o16, o17, o18, o19, o20] Q S fuel (listed.setIfInBounds 3 true) a w) → K' a w) → if Region.wanted o3 (yielded #[o0, o1, o2, o3, o4, o5, o6, o7, o8, o9, o10, o11, o12, o13, o14, o15, o16, o17, o18, o19, o20] a.tmps) = true then Oper.wp P o3 a w K' Q else K' (a.put o3.dst undef) w) (h2 : ∀ K' : Act → World → Prop, Shut (∀ a w, S w → (S w → wpAnyH P md #[o0, o1, o2, o3, o4, o5, o6, o7, o8, o9, o10, o11, o12, o13, o14, o15, o16, o17, o18, o19, o20] Q S fuel (listed.setIfInBounds 11 true) a w) → K' a w) → if Region.wanted o11 (yielded #[o0, o1, o2, o3, o4, o5, o6, o7, o8, o9, o10, o11, o12, o13, o14, o15, o16, o17, o18, o19, o20] a.tmps) = true then Oper.wp P o11 a w K' Q else K' (a.put o11.dst undef) w) : wpAnyH P md #[o0, o1, o2, o3, o4, o5, o6, o7, o8, o9, o10, o11, o12, o13, o14, o15, o16, o17, o18, o19, o20] Q S (fuel + 1) listed a w := wpAnyH_ready hr (by simp) (AllReadyH.cons (o := o3) rfl h (AllReadyH.cons (o := o11) rfl h2 AllReadyH.nil))
end
end Go.Proofs.YtphnnbbgcnilgaaDoor.LstR21

namespace Go.Proofs.YtphnnbbgcnilgaaDoor.LstJ
open Go.RowKit Go.Proofs.YtphnnbbgcnilgaaDoorW.PrintWords Go.Proofs.YtphnnbbgcnilgaaDoor.Common Go.Proofs.YtphnnbbgcnilgaaDoor.LstT Go.Proofs.YtphnnbbgcnilgaaDoor.LstA Go.Proofs.YtphnnbbgcnilgaaDoor.LstB Go.Proofs.YtphnnbbgcnilgaaDoor.LstC Go.Proofs.YtphnnbbgcnilgaaDoor.LstE Go.Proofs.YtphnnbbgcnilgaaDoor.LstF Go.Proofs.YtphnnbbgcnilgaaDoor.LstG Go.Proofs.YtphnnbbgcnilgaaDoor.LstI
set_option linter.unusedVariables false
set_option linter.unusedSimpArgs false
set_option maxRecDepth 1000000

theorem count_c (s : ByteArray) (hs : s.size ≤ 1000) (W : World) : Calls Tryd.prog 48 #[.string s] W fun e w' => e = .returned (.int .i64 (Lib.runeCount s : Int)) ∧ Below W.heap.size W w' := by
  refine (Tryd.utf8_RuneCountInString s W (by omega)).mono ?_
  rintro e w' ⟨rfl, pos, rfl⟩
  exact ⟨rfl, below_alloc (Below.refl _ _) _⟩
theorem repeat_c (n : Nat) (hn : n ≤ 1000) (W : World) : Calls Tryd.prog 47 #[.string ⟨#[32]⟩, .int .i64 (n : Int)] W fun e w' => e = .returned (.string (ofL (Lib.repeatL [32] n))) ∧ Below W.heap.size W w' :=
  Tryd.strings_Repeat ⟨#[32]⟩ n W (by omega) (by show 1 * n ≤ _; omega)
section
variable {B : Nat} {w0 : World} {q qs : Nat} {gs : List Nat} {its : List (Nat × ByteArray)} {lev : Nat} {y : Sty} {vs cl : ByteArray} {ap : Nat} {v : Value} {W : World}
theorem _root_.Go.Proofs.YtphnnbbgcnilgaaDoor.LstI.RS.cells (h : RS B w0 q qs gs its lev y vs cl ap v W) : W.cell? ⟨q, 0, none⟩ = some (.int .i64 (ap : Int)) ∧ W.cell? ⟨q, 1, none⟩ = some (.string vs) ∧ W.cell? ⟨q, 2, none⟩ = some (.string cl) ∧ W.cell? ⟨q, 3, none⟩ = some v ∧ W.cell? ⟨q, 5, none⟩ = some (.pointer (some ⟨qs, 0, none⟩)) ∧ W.cell? ⟨qs, 5, none⟩ = some (.string y.ve) ∧ W.cell? ⟨qs, 7, none⟩ = some (.string ⟨#[10]⟩) ∧ W.cell? ⟨qs, 8, none⟩ = some (.string y.px) ∧ ∀ i, W.frozen? ⟨q, i, none⟩ = false :=
  ⟨(cell_of_row _ _ _ _ _ _ h.hq).trans rfl, (cell_of_row _ _ _ _ _ _ h.hq).trans rfl, (cell_of_row _ _ _ _ _ _ h.hq).trans rfl, (cell_of_row _ _ _ _ _ _ h.hq).trans rfl, (cell_of_row _ _ _ _ _ _ h.hq).trans rfl, (cell_of_row _ _ _ _ _ _ h.hs).trans rfl, (cell_of_row _ _ _ _ _ _ h.hs).trans rfl, (cell_of_row _ _ _ _ _ _ h.hs).trans rfl, fun i => by simp [World.frozen?, h.hq]⟩
theorem _root_.Go.Proofs.YtphnnbbgcnilgaaDoor.LstI.RS.item (h : RS B w0 q qs gs its lev y vs cl ap v W) (i : Nat) (hi : i < its.length) :
    ∃ ad g c, v = .slice (some ad) gs.length c ∧ gs[i]? = some g ∧ W.cell? (ad.add i) = some (.pointer (some ⟨g, 0, none⟩)) := by
  obtain ⟨A, c, rfl, _, hC⟩ := Kd.R_reads h.row
  have hg : i < gs.length := by rw [h.len]; exact hi
  obtain ⟨ad, c1, rfl, _, hK, hc⟩ := Kd.C_get hC (0 : Nat) (i : Int) (by omega) (by omega)
  have hK2 : c1 = [.pointer (some ⟨gs.getD (i : Int).toNat 0, 0, none⟩)] := hK
  subst hK2
  have h1 := hc 0 _ rfl
  rw [Int.toNat_natCast, show PK.sz = 1 from rfl, Nat.mul_one, Nat.add_zero] at h1
  have e : gs.getD i 0 = gs[i] := by simp [List.getD_eq_getElem?_getD, List.getElem?_eq_getElem hg]
  rw [e] at h1
  exact ⟨ad, gs[i], c, rfl, List.getElem?_eq_getElem hg, h1⟩
theorem _root_.Go.Proofs.YtphnnbbgcnilgaaDoor.LstI.RS.el2 (h : RS B w0 q qs gs its lev y vs cl ap v W) {i g : Nat} {x : Nat × ByteArray} (h1 : gs[i]? = some g) (h2 : its[i]? = some x) : W.cell? ⟨g, 0, none⟩ = some (.int .i64 (x.1 : Int)) ∧ W.cell? ⟨g, 1, none⟩ = some (.string x.2) :=
  ⟨(cell_of_row _ _ _ _ _ _ (h.el i g x h1 h2).1).trans rfl, (cell_of_row _ _ _ _ _ _ (h.el i g x h1 h2).1).trans rfl⟩
end
theorem wrapN (z : Nat) (h : z ≤ 1000000000000) : IntKind.i64.wrap (z : Int) = (z : Int) := by rw [IntKind.wrap_i64]; omega
def dcl : ByteArray := ⟨#[103, 111, 45, 112, 114, 101, 116, 116, 121, 45, 116, 97, 98, 108, 101]⟩
set_option maxHeartbeats 4000000 in
theorem init_c {B : Nat} {w0 : World} {q : Nat} {gs : List Nat} {its : List (Nat × ByteArray)} {lev : Nat} {y : Sty} {vs0 : ByteArray} {ap0 : Nat} {A : Option Addr} {c : Nat} {w : World}
    (hst : Calls Tryd.prog 46 #[.pointer (some ⟨q, 0, none⟩)] w fun e w' => ∃ qs, e = .returned (.pointer (some ⟨qs, 0, none⟩)) ∧ RS B w0 q qs gs its lev y vs0 ⟨#[]⟩ ap0 (.slice A gs.length c) w')
    (hw0 : B ≤ w0.heap.size) (hye : y.ve.size ≤ 1000) (hyp : y.px.size ≤ 1000) (hn : its.length ≤ 100000) (hits : ∀ x ∈ its, x.1 ≤ 1000 ∧ x.2.size ≤ 1000) :
    Calls Tryd.prog 36 #[.pointer (some ⟨q, 0, none⟩)] w fun e w' => ∃ u, e = .returned u ∧ ∃ qs ap, ap ≤ 110000000000 ∧ RS B w0 q qs gs its lev y (ofL (Lib.repeatL [32] (Lib.runeCount y.ve))) dcl ap (.slice A gs.length c) w' := by
  have HST := Aside0.mk hst
  have HC := fun s hs W => Aside0.mk (count_c s hs W)
  have hce := Nat.le_trans (Lib.runeCount_le y.ve) hye
  have hcp := Nat.le_trans (Lib.runeCount_le y.px) hyp
  obtain ⟨rn, hrn⟩ : ∃ rn, rn = Lib.runeCount ⟨#[10]⟩ := ⟨_, rfl⟩
  have hcn : rn ≤ 1000 := by rw [hrn]; exact Nat.le_trans (Lib.runeCount_le _) (by show 1 ≤ 1000; omega)
  have HCN : ∀ W, Aside0 (Calls Tryd.prog 48 #[.string ⟨#[10]⟩] W fun e w' => e = .returned (.int .i64 (rn : Int)) ∧ Below W.heap.size W w') := fun W => by rw [hrn]; exact HC _ (by show 1 ≤ 1000; omega) W
  clear hrn
  have HRP := fun W => Aside0.mk (repeat_c (Lib.runeCount y.ve) hce W)
  have HT := Aside0.mk hits
  have HSZ := fun (qs : Nat) (vs cl : ByteArray) (ap : Nat) (W : World) (h : RS B w0 q qs gs its lev y vs cl ap (.slice A gs.length c) W) => (show B ≤ W.heap.size from Nat.le_trans hw0 h.bel.size)
  clear hst hits
  go_enter Tryd.func36, Tryd.ntmps36
  go_wp2_with (first
    | (go_at_call 46; refine HST.out.mono ?_; rintro e w1 ⟨qs, rfl, hr⟩; have HR1 := Aside0.mk hr; obtain ⟨c0, c1, c2, c3, c5, s5, s7, s8, hf⟩ := hr.cells; clear hr)
    | (go_at_call 48; refine (HC y.ve hye _).out.mono ?_; rintro e w2 ⟨rfl, hb⟩; have HR2 := Aside0.mk (HR1.out.below (HSZ _ _ _ _ _ HR1.out) hb); clear hb)
    | (go_at_call 47; refine (HRP _).out.mono ?_; rintro e w3 ⟨rfl, hb⟩; have HR3 := Aside0.mk (HR2.out.below (HSZ _ _ _ _ _ HR2.out) hb); clear hb; obtain ⟨d0, d1, d2, d3, d5, t5, t7, t8, hg⟩ := HR3.out.cells; have hg0 := hg 0; have hg1 := hg 1; have HP := Aside0.mk ((HR3.out.put (vs1 := ofL (Lib.repeatL [32] (Lib.runeCount y.ve))) (cl1 := ⟨#[]⟩) (ap1 := ap0) 1 (.string (ofL (Lib.repeatL [32] (Lib.runeCount y.ve)))) rfl).put (vs1 := ofL (Lib.repeatL [32] (Lib.runeCount y.ve))) (cl1 := ⟨#[]⟩) (ap1 := 0) 0 (.int .i64 0) rfl)))
  go_loopw [26] (fun i wr => ∃ k ap : Nat, Value.int .i64 (k : Int) = i ∧ k ≤ its.length ∧ ap ≤ k * 1100000 ∧ Aside0 (RS B w0 q qs gs its lev y (ofL (Lib.repeatL [32] (Lib.runeCount y.ve))) ⟨#[]⟩ ap (.slice A gs.length c) wr)) (fun i _ => its.length - (intOf i).toNat)
  case atStart => exact ⟨0, 0, rfl, by omega, by omega, HP⟩
  case round =>
    obtain ⟨k, ap, rfl, hk, hap, HR⟩ := hrel
    have HGL := Aside0.mk HR.out.len
    clear c0 c1 c2 c3 c5 s5 s7 s8 hf d0 d1 d2 d3 d5 t5 t7 t8 hg hg0 hg1 HP HR1 HR2 HR3
    by_cases hlt : k < its.length
    · have hdl : decide ((k : Int) < (gs.length : Int)) = true := decide_eq_true (by have := HGL.out; omega)
      have hltg : k < gs.length := by have := HGL.out; omega
      obtain ⟨ad, g, c9, hv, hgi, hcell⟩ := HR.out.item k hlt
      cases hv
      have hx := List.getElem?_eq_getElem hlt
      have hbx := HT.out _ (List.getElem_mem hlt)
      obtain ⟨⟨lv, tx⟩, hxe⟩ : ∃ x, x = its[k] := ⟨_, rfl⟩
      rw [← hxe] at hx hbx
      clear hxe
      obtain ⟨hlv, htx⟩ := hbx
      dsimp only at hlv htx
      have hct := Nat.le_trans (Lib.runeCount_le tx) htx
      have hml : Lib.runeCount y.ve * lv ≤ 1000 * 1000 := Nat.mul_le_mul hce hlv
      have hmw2 : IntKind.i64.wrap ((Lib.runeCount y.ve : Int) * (lv : Int)) = ((Lib.runeCount y.ve * lv : Nat) : Int) := by rw [← Int.natCast_mul]; exact wrapN _ (by omega)
      have HEL : ∀ (ap : Nat) (W : World), RS B w0 q qs gs its lev y (ofL (Lib.repeatL [32] (Lib.runeCount y.ve))) ⟨#[]⟩ ap (.slice (some ad) gs.length c) W → W.cell? ⟨g, 0, none⟩ = some (.int .i64 (lv : Int)) ∧ W.cell? ⟨g, 1, none⟩ = some (.string tx) := fun ap W h => RS.el2 h hgi hx
      clear HT hx hgi HST HRP
      obtain ⟨g0, g1⟩ := HEL _ _ HR.out
      by_cases hz : lv = 0
      · have hdz : decide ((lv : Int) > 0) = false := decide_eq_false (by omega)
        go_upto_region 6 with fail
        go_cut [] from 30 to 44 (fun wx => ∃ ap1 : Nat, ap1 ≤ k * 1100000 + 1000 ∧ Aside0 (RS B w0 q qs gs its lev y (ofL (Lib.repeatL [32] (Lib.runeCount y.ve))) ⟨#[]⟩ ap1 (.slice (some ad) gs.length c) wx))
        case first =>
          have HRD := Aside0.mk (HR.out.below (HSZ _ _ _ _ _ HR.out) (below_drew1 (Below.refl _ _)))
          obtain ⟨c0, c1, c2, c3, c5, s5, s7, s8, hf⟩ := HRD.out.cells
          obtain ⟨g0, g1⟩ := HEL _ _ HRD.out
          refine wp_region_held_drew (S := fun w' => w'.cell? ⟨q, 5, none⟩ = some (.pointer (some ⟨qs, 0, none⟩)) ∧ (w'.cell? ⟨qs, 5, none⟩ = some (.string y.ve) ∧ w'.cell? ⟨qs, 7, none⟩ = some (.string ⟨#[10]⟩) ∧ w'.cell? ⟨qs, 8, none⟩ = some (.string y.px)) ∧ w'.cell? ⟨g, 0, none⟩ = some (.int .i64 (lv : Int)) ∧ w'.cell? ⟨g, 1, none⟩ = some (.string tx)) (by kernel_rfl) ⟨c5, ⟨s5, s7, s8⟩, g0, g1⟩ (fun hHeld => ?_)
          refine LstR16.tk0 (v := ?_) (by kernel_rfl) (by kernel_rfl) (by kernel_rfl) (fun _ _ _ h => h) (Or.inl ⟨by rfl, ?_⟩) hHeld ?_
          rotate_left
          · (intro w hSw; obtain ⟨k1, ⟨k2, k5, k6⟩, k3, k4⟩ := hSw; go_simp; try with_reducible rfl)
          try simp only [Act.put, List.setIfInBounds_toArray, List.set_cons_zero, List.set_cons_succ]
          refine LstR16.tk1 (v := ?_) (by kernel_rfl) (by kernel_rfl) (by kernel_rfl) (fun _ _ _ h => h) (Or.inl ⟨by rfl, ?_⟩) hHeld ?_
          rotate_left
          · (intro w hSw; obtain ⟨k1, ⟨k2, k5, k6⟩, k3, k4⟩ := hSw; go_simp; try with_reducible rfl)
          try simp only [Act.put, List.setIfInBounds_toArray, List.set_cons_zero, List.set_cons_succ]
          refine LstR16.tk2 (v := ?_) (by kernel_rfl) (by kernel_rfl) (by kernel_rfl) (fun _ _ _ h => h) (Or.inl ⟨by rfl, ?_⟩) hHeld ?_
          rotate_left
          · (intro w hSw; obtain ⟨k1, ⟨k2, k5, k6⟩, k3, k4⟩ := hSw; go_simp; try with_reducible rfl)
          try simp only [Act.put, List.setIfInBounds_toArray, List.set_cons_zero, List.set_cons_succ]
          refine LstR16.tk4 (v := ?_) (by kernel_rfl) (by kernel_rfl) (by kernel_rfl) (fun _ _ _ h => h) (Or.inl ⟨by rfl, ?_⟩) hHeld ?_
          rotate_left
          · (intro w hSw; obtain ⟨k1, ⟨k2, k5, k6⟩, k3, k4⟩ := hSw; go_simp; try with_reducible rfl)
          try simp only [Act.put, List.setIfInBounds_toArray, List.set_cons_zero, List.set_cons_succ]
          refine LstR16.tk5 (v := ?_) (by kernel_rfl) (by kernel_rfl) (by kernel_rfl) (fun _ _ _ h => h) (Or.inl ⟨by rfl, ?_⟩) hHeld ?_
          rotate_left
          · (intro w hSw; obtain ⟨k1, ⟨k2, k5, k6⟩, k3, k4⟩ := hSw; go_simp; try with_reducible rfl)
          try simp only [Act.put, List.setIfInBounds_toArray, List.set_cons_zero, List.set_cons_succ]
          refine LstR16.tk6 (v := ?_) (by kernel_rfl) (by kernel_rfl) (by kernel_rfl) (fun _ _ _ h => h) (Or.inl ⟨by rfl, ?_⟩) hHeld ?_
          rotate_left
          · (intro w hSw; obtain ⟨k1, ⟨k2, k5, k6⟩, k3, k4⟩ := hSw; go_simp; try with_reducible rfl)
          try simp only [Act.put, List.setIfInBounds_toArray, List.set_cons_zero, List.set_cons_succ]
          refine LstR16.tk7 (v := ?_) (by kernel_rfl) (by kernel_rfl) (by kernel_rfl) (fun _ _ _ h => h) (Or.inl ⟨by rfl, ?_⟩) hHeld ?_
          rotate_left
          · (intro w hSw; obtain ⟨k1, ⟨k2, k5, k6⟩, k3, k4⟩ := hSw; go_simp; try with_reducible rfl)
          try simp only [Act.put, List.setIfInBounds_toArray, List.set_cons_zero, List.set_cons_succ]
          refine LstR16.tk8 (v := ?_) (by kernel_rfl) (by kernel_rfl) (by kernel_rfl) (fun _ _ _ h => h) (Or.inl ⟨by rfl, ?_⟩) hHeld ?_
          rotate_left
          · (intro w hSw; obtain ⟨k1, ⟨k2, k5, k6⟩, k3, k4⟩ := hSw; go_simp; try with_reducible rfl)
          try simp only [Act.put, List.setIfInBounds_toArray, List.set_cons_zero, List.set_cons_succ]
          refine LstR16.tk9 (v := ?_) (by kernel_rfl) (by kernel_rfl) (by kernel_rfl) (fun _ _ _ h => h) (Or.inl ⟨by rfl, ?_⟩) hHeld ?_
          rotate_left
          · (intro w hSw; obtain ⟨k1, ⟨k2, k5, k6⟩, k3, k4⟩ := hSw; go_simp; try with_reducible rfl)
          try simp only [Act.put, List.setIfInBounds_toArray, List.set_cons_zero, List.set_cons_succ]
          refine LstR16.tk10 (v := ?_) (by kernel_rfl) (by kernel_rfl) (by kernel_rfl) (fun _ _ _ h => h) (Or.inl ⟨by rfl, ?_⟩) hHeld ?_
          rotate_left
          · (intro w hSw; obtain ⟨k1, ⟨k2, k5, k6⟩, k3, k4⟩ := hSw; go_simp; try with_reducible rfl)
          try simp only [Act.put, List.setIfInBounds_toArray, List.set_cons_zero, List.set_cons_succ]
          refine LstR16.ac3_11 (by kernel_rfl) (fun K hK => ?_) (fun K hK => ?_)
          · go_simp
            refine hK.out _ _ hHeld (fun hHeld => ?_)
            clear hK K
            try simp only [Act.put, List.setIfInBounds_toArray, List.set_cons_zero, List.set_cons_succ]
            refine LstR16.ac11 (by kernel_rfl) (fun K hK => ?_)
            go_simp
            (go_at_call 48; refine (HC y.px hyp _).out.mono ?_; rintro e w2 ⟨rfl, hb⟩; have HR2 := Aside0.mk (HRD.out.below (HSZ _ _ _ _ _ HRD.out) hb); obtain ⟨d0, d1, d2, d3, d5, t5, t7, t8, hg⟩ := HR2.out.cells; obtain ⟨e0, e1⟩ := HEL _ _ HR2.out; have hg0 := hg 0; clear hb hg)
            try go_wp2_with fail
            refine hK.out _ _ ⟨d5, ⟨t5, t7, t8⟩, e0, e1⟩ (fun hHeld => ?_)
            clear hK K
            try simp only [Act.put, List.setIfInBounds_toArray, List.set_cons_zero, List.set_cons_succ]
            refine LstR16.tk12 (v := ?_) (by kernel_rfl) (by kernel_rfl) (by kernel_rfl) (fun _ _ _ h => h) (Or.inl ⟨by rfl, ?_⟩) hHeld ?_
            rotate_left
            · (intro w hSw; obtain ⟨k1, ⟨k2, k5, k6⟩, k3, k4⟩ := hSw; go_simp; try with_reducible rfl)
            try simp only [Act.put, List.setIfInBounds_toArray, List.set_cons_zero, List.set_cons_succ]
            refine LstR16.tk13 (v := ?_) (by kernel_rfl) (by kernel_rfl) (by kernel_rfl) (fun _ _ _ h => h) (Or.inl ⟨by rfl, ?_⟩) hHeld ?_
            rotate_left
            · (intro w hSw; obtain ⟨k1, ⟨k2, k5, k6⟩, k3, k4⟩ := hSw; go_simp; try with_reducible rfl)
            try simp only [Act.put, List.setIfInBounds_toArray, List.set_cons_zero, List.set_cons_succ]
            refine LstR16.tk14 (v := ?_) (by kernel_rfl) (by kernel_rfl) (by kernel_rfl) (fun _ _ _ h => h) (Or.inl ⟨by rfl, ?_⟩) hHeld ?_
            rotate_left
            · (intro w hSw; obtain ⟨k1, ⟨k2, k5, k6⟩, k3, k4⟩ := hSw; go_simp; try with_reducible rfl)
            try simp only [Act.put, List.setIfInBounds_toArray, List.set_cons_zero, List.set_cons_succ]
            have HPT : ∀ u, u = Value.int .i64 (((ap + Lib.runeCount y.px : Nat)) : Int) → Aside0 (RS B w0 q qs gs its lev y (ofL (Lib.repeatL [32] (Lib.runeCount y.ve))) ⟨#[]⟩ (ap + Lib.runeCount y.px) (.slice (some ad) gs.length c) (w2.setCell ⟨q, 0, none⟩ u)) := fun u hu => Aside0.mk (HR2.out.put 0 u (by rw [hu]; rfl))
            refine LstR16.ac15 (by kernel_rfl) (fun K hK => ?_)
            go_simp
            have HF := HPT (.int .i64 (IntKind.i64.wrap ((ap : Int) + ((Lib.runeCount y.px : Nat) : Int)))) (congrArg (Value.int .i64) (show IntKind.i64.wrap ((ap : Int) + ((Lib.runeCount y.px : Nat) : Int)) = ((ap + Lib.runeCount y.px : Nat) : Int) by rw [IntKind.wrap_i64]; omega))
            have hS := HF.out.cells
            have hE := HEL _ _ HF.out
            refine hK.out _ _ ⟨hS.2.2.2.2.1, ⟨hS.2.2.2.2.2.1, hS.2.2.2.2.2.2.1, hS.2.2.2.2.2.2.2.1⟩, hE.1, hE.2⟩ (fun hHeld => ?_)
            clear hK K
            refine wpAnyH_done (by kernel_rfl) ?_ _
            try simp only [Act.put, List.setIfInBounds_toArray, List.set_cons_zero, List.set_cons_succ]
            go_wp2_with fail
            go_meet
            exact ⟨_, by omega, HF⟩
          · go_simp
            (go_at_call 48; refine (HC y.px hyp _).out.mono ?_; rintro e w2 ⟨rfl, hb⟩; have HR2 := Aside0.mk (HRD.out.below (HSZ _ _ _ _ _ HRD.out) hb); obtain ⟨d0, d1, d2, d3, d5, t5, t7, t8, hg⟩ := HR2.out.cells; obtain ⟨e0, e1⟩ := HEL _ _ HR2.out; have hg0 := hg 0; clear hb hg)
            try go_wp2_with fail
            refine hK.out _ _ ⟨d5, ⟨t5, t7, t8⟩, e0, e1⟩ (fun hHeld => ?_)
            clear hK K
            try simp only [Act.put, List.setIfInBounds_toArray, List.set_cons_zero, List.set_cons_succ]
            refine LstR16.ac3 (by kernel_rfl) (fun K hK => ?_)
            go_simp
            refine hK.out _ _ hHeld (fun hHeld => ?_)
            clear hK K
            try simp only [Act.put, List.setIfInBounds_toArray, List.set_cons_zero, List.set_cons_succ]
            refine LstR16.tk12 (v := ?_) (by kernel_rfl) (by kernel_rfl) (by kernel_rfl) (fun _ _ _ h => h) (Or.inl ⟨by rfl, ?_⟩) hHeld ?_
            rotate_left
            · (intro w hSw; obtain ⟨k1, ⟨k2, k5, k6⟩, k3, k4⟩ := hSw; go_simp; try with_reducible rfl)
            try simp only [Act.put, List.setIfInBounds_toArray, List.set_cons_zero, List.set_cons_succ]
            refine LstR16.tk13 (v := ?_) (by kernel_rfl) (by kernel_rfl) (by kernel_rfl) (fun _ _ _ h => h) (Or.inl ⟨by rfl, ?_⟩) hHeld ?_
            rotate_left
            · (intro w hSw; obtain ⟨k1, ⟨k2, k5, k6⟩, k3, k4⟩ := hSw; go_simp; try with_reducible rfl)
            try simp only [Act.put, List.setIfInBounds_toArray, List.set_cons_zero, List.set_cons_succ]
            refine LstR16.tk14 (v := ?_) (by kernel_rfl) (by kernel_rfl) (by kernel_rfl) (fun _ _ _ h => h) (Or.inl ⟨by rfl, ?_⟩) hHeld ?_
            rotate_left
            · (intro w hSw; obtain ⟨k1, ⟨k2, k5, k6⟩, k3, k4⟩ := hSw; go_simp; try with_reducible rfl)
            try simp only [Act.put, List.setIfInBounds_toArray, List.set_cons_zero, List.set_cons_succ]
            have HPT : ∀ u, u = Value.int .i64 (((ap + Lib.runeCount y.px : Nat)) : Int) → Aside0 (RS B w0 q qs gs its lev y (ofL (Lib.repeatL [32] (Lib.runeCount y.ve))) ⟨#[]⟩ (ap + Lib.runeCount y.px) (.slice (some ad) gs.length c) (w2.setCell ⟨q, 0, none⟩ u)) := fun u hu => Aside0.mk (HR2.out.put 0 u (by rw [hu]; rfl))
            refine LstR16.ac15 (by kernel_rfl) (fun K hK => ?_)
            go_simp
            have HF := HPT (.int .i64 (IntKind.i64.wrap ((ap : Int) + ((Lib.runeCount y.px : Nat) : Int)))) (congrArg (Value.int .i64) (show IntKind.i64.wrap ((ap : Int) + ((Lib.runeCount y.px : Nat) : Int)) = ((ap + Lib.runeCount y.px : Nat) : Int) by rw [IntKind.wrap_i64]; omega))
            have hS := HF.out.cells
            have hE := HEL _ _ HF.out
            refine hK.out _ _ ⟨hS.2.2.2.2.1, ⟨hS.2.2.2.2.2.1, hS.2.2.2.2.2.2.1, hS.2.2.2.2.2.2.2.1⟩, hE.1, hE.2⟩ (fun hHeld => ?_)
            clear hK K
            refine wpAnyH_done (by kernel_rfl) ?_ _
            try simp only [Act.put, List.setIfInBounds_toArray, List.set_cons_zero, List.set_cons_succ]
            go_wp2_with fail
            go_meet
            exact ⟨_, by omega, HF⟩
        case rest =>
          obtain ⟨ap6, hap6, HR6⟩ := hcut
          obtain ⟨g0, g1⟩ := HEL _ _ HR6.out
          go_upto_region 9 with fail
          go_cut [] from 70 to 84 (fun wx => ∃ ap1 : Nat, ap1 ≤ k * 1100000 + 1002000 ∧ Aside0 (RS B w0 q qs gs its lev y (ofL (Lib.repeatL [32] (Lib.runeCount y.ve))) ⟨#[]⟩ ap1 (.slice (some ad) gs.length c) wx))
          case first =>
            have HRD := Aside0.mk (HR6.out.below (HSZ _ _ _ _ _ HR6.out) (below_drew1 (Below.refl _ _)))
            obtain ⟨c0, c1, c2, c3, c5, s5, s7, s8, hf⟩ := HRD.out.cells
            obtain ⟨g0, g1⟩ := HEL _ _ HRD.out
            refine wp_region_held_drew (S := fun w' => w'.cell? ⟨q, 5, none⟩ = some (.pointer (some ⟨qs, 0, none⟩)) ∧ (w'.cell? ⟨qs, 5, none⟩ = some (.string y.ve) ∧ w'.cell? ⟨qs, 7, none⟩ = some (.string ⟨#[10]⟩) ∧ w'.cell? ⟨qs, 8, none⟩ = some (.string y.px)) ∧ w'.cell? ⟨g, 0, none⟩ = some (.int .i64 (lv : Int)) ∧ w'.cell? ⟨g, 1, none⟩ = some (.string tx)) (by kernel_rfl) ⟨c5, ⟨s5, s7, s8⟩, g0, g1⟩ (fun hHeld => ?_)
            refine LstR16.tk0 (v := ?_) (by kernel_rfl) (by kernel_rfl) (by kernel_rfl) (fun _ _ _ h => h) (Or.inl ⟨by rfl, ?_⟩) hHeld ?_
            rotate_left
            · (intro w hSw; obtain ⟨k1, ⟨k2, k5, k6⟩, k3, k4⟩ := hSw; go_simp; try with_reducible rfl)
            try simp only [Act.put, List.setIfInBounds_toArray, List.set_cons_zero, List.set_cons_succ]
            refine LstR16.tk1 (v := ?_) (by kernel_rfl) (by kernel_rfl) (by kernel_rfl) (fun _ _ _ h => h) (Or.inl ⟨by rfl, ?_⟩) hHeld ?_
            rotate_left
            · (intro w hSw; obtain ⟨k1, ⟨k2, k5, k6⟩, k3, k4⟩ := hSw; go_simp; try with_reducible rfl)
            try simp only [Act.put, List.setIfInBounds_toArray, List.set_cons_zero, List.set_cons_succ]
            refine LstR16.tk2 (v := ?_) (by kernel_rfl) (by kernel_rfl) (by kernel_rfl) (fun _ _ _ h => h) (Or.inl ⟨by rfl, ?_⟩) hHeld ?_
            rotate_left
            · (intro w hSw; obtain ⟨k1, ⟨k2, k5, k6⟩, k3, k4⟩ := hSw; go_simp; try with_reducible rfl)
            try simp only [Act.put, List.setIfInBounds_toArray, List.set_cons_zero, List.set_cons_succ]
            refine LstR16.tk4 (v := ?_) (by kernel_rfl) (by kernel_rfl) (by kernel_rfl) (fun _ _ _ h => h) (Or.inl ⟨by rfl, ?_⟩) hHeld ?_
            rotate_left
            · (intro w hSw; obtain ⟨k1, ⟨k2, k5, k6⟩, k3, k4⟩ := hSw; go_simp; try with_reducible rfl)
            try simp only [Act.put, List.setIfInBounds_toArray, List.set_cons_zero, List.set_cons_succ]
            refine LstR16.tk5 (v := ?_) (by kernel_rfl) (by kernel_rfl) (by kernel_rfl) (fun _ _ _ h => h) (Or.inl ⟨by rfl, ?_⟩) hHeld ?_
            rotate_left
            · (intro w hSw; obtain ⟨k1, ⟨k2, k5, k6⟩, k3, k4⟩ := hSw; go_simp; try with_reducible rfl)
            try simp only [Act.put, List.setIfInBounds_toArray, List.set_cons_zero, List.set_cons_succ]
            refine LstR16.tk6 (v := ?_) (by kernel_rfl) (by kernel_rfl) (by kernel_rfl) (fun _ _ _ h => h) (Or.inl ⟨by rfl, ?_⟩) hHeld ?_
            rotate_left
            · (intro w hSw; obtain ⟨k1, ⟨k2, k5, k6⟩, k3, k4⟩ := hSw; go_simp; try with_reducible rfl)
            try simp only [Act.put, List.setIfInBounds_toArray, List.set_cons_zero, List.set_cons_succ]
            refine LstR16.tk7 (v := ?_) (by kernel_rfl) (by kernel_rfl) (by kernel_rfl) (fun _ _ _ h => h) (Or.inl ⟨by rfl, ?_⟩) hHeld ?_
            rotate_left
            · (intro w hSw; obtain ⟨k1, ⟨k2, k5, k6⟩, k3, k4⟩ := hSw; go_simp; try with_reducible rfl)
            try simp only [Act.put, List.setIfInBounds_toArray, List.set_cons_zero, List.set_cons_succ]
            refine LstR16.tk8 (v := ?_) (by kernel_rfl) (by kernel_rfl) (by kernel_rfl) (fun _ _ _ h => h) (Or.inl ⟨by rfl, ?_⟩) hHeld ?_
            rotate_left
            · (intro w hSw; obtain ⟨k1, ⟨k2, k5, k6⟩, k3, k4⟩ := hSw; go_simp; try with_reducible rfl)
            try simp only [Act.put, List.setIfInBounds_toArray, List.set_cons_zero, List.set_cons_succ]
            refine LstR16.tk9 (v := ?_) (by kernel_rfl) (by kernel_rfl) (by kernel_rfl) (fun _ _ _ h => h) (Or.inl ⟨by rfl, ?_⟩) hHeld ?_
            rotate_left
            · (intro w hSw; obtain ⟨k1, ⟨k2, k5, k6⟩, k3, k4⟩ := hSw; go_simp; try with_reducible rfl)
            try simp only [Act.put, List.setIfInBounds_toArray, List.set_cons_zero, List.set_cons_succ]
            refine LstR16.tk10 (v := ?_) (by kernel_rfl) (by kernel_rfl) (by kernel_rfl) (fun _ _ _ h => h) (Or.inl ⟨by rfl, ?_⟩) hHeld ?_
            rotate_left
            · (intro w hSw; obtain ⟨k1, ⟨k2, k5, k6⟩, k3, k4⟩ := hSw; go_simp; try with_reducible rfl)
            try simp only [Act.put, List.setIfInBounds_toArray, List.set_cons_zero, List.set_cons_succ]
            refine LstR16.ac3_11 (by kernel_rfl) (fun K hK => ?_) (fun K hK => ?_)
            · go_simp
              refine hK.out _ _ hHeld (fun hHeld => ?_)
              clear hK K
              try simp only [Act.put, List.setIfInBounds_toArray, List.set_cons_zero, List.set_cons_succ]
              refine LstR16.ac11 (by kernel_rfl) (fun K hK => ?_)
              go_simp
              (go_at_call 48; refine (HC y.ve hye _).out.mono ?_; rintro e w2 ⟨rfl, hb⟩; have HR2 := Aside0.mk (HRD.out.below (HSZ _ _ _ _ _ HRD.out) hb); obtain ⟨d0, d1, d2, d3, d5, t5, t7, t8, hg⟩ := HR2.out.cells; obtain ⟨e0, e1⟩ := HEL _ _ HR2.out; have hg0 := hg 0; clear hb hg)
              try go_wp2_with fail
              refine hK.out _ _ ⟨d5, ⟨t5, t7, t8⟩, e0, e1⟩ (fun hHeld => ?_)
              clear hK K
              try simp only [Act.put, List.setIfInBounds_toArray, List.set_cons_zero, List.set_cons_succ]
              refine LstR16.tk12 (v := ?_) (by kernel_rfl) (by kernel_rfl) (by kernel_rfl) (fun _ _ _ h => h) (Or.inl ⟨by rfl, ?_⟩) hHeld ?_
              rotate_left
              · (intro w hSw; obtain ⟨k1, ⟨k2, k5, k6⟩, k3, k4⟩ := hSw; go_simp; try with_reducible rfl)
              try simp only [Act.put, List.setIfInBounds_toArray, List.set_cons_zero, List.set_cons_succ]
              refine LstR16.tk13 (v := ?_) (by kernel_rfl) (by kernel_rfl) (by kernel_rfl) (fun _ _ _ h => h) (Or.inl ⟨by rfl, ?_⟩) hHeld ?_
              rotate_left
              · (intro w hSw; obtain ⟨k1, ⟨k2, k5, k6⟩, k3, k4⟩ := hSw; go_simp; try with_reducible rfl)
              try simp only [Act.put, List.setIfInBounds_toArray, List.set_cons_zero, List.set_cons_succ]
              refine LstR16.tk14 (v := ?_) (by kernel_rfl) (by kernel_rfl) (by kernel_rfl) (fun _ _ _ h => h) (Or.inl ⟨by rfl, ?_⟩) hHeld ?_
              rotate_left
              · (intro w hSw; obtain ⟨k1, ⟨k2, k5, k6⟩, k3, k4⟩ := hSw; go_simp; try with_reducible rfl)
              try simp only [Act.put, List.setIfInBounds_toArray, List.set_cons_zero, List.set_cons_succ]
              have HPT : ∀ u, u = Value.int .i64 (((ap6 + Lib.runeCount y.ve : Nat)) : Int) → Aside0 (RS B w0 q qs gs its lev y (ofL (Lib.repeatL [32] (Lib.runeCount y.ve))) ⟨#[]⟩ (ap6 + Lib.runeCount y.ve) (.slice (some ad) gs.length c) (w2.setCell ⟨q, 0, none⟩ u)) := fun u hu => Aside0.mk (HR2.out.put 0 u (by rw [hu]; rfl))
              refine LstR16.ac15 (by kernel_rfl) (fun K hK => ?_)
              go_simp
              have HF := HPT (.int .i64 (IntKind.i64.wrap ((ap6 : Int) + ((Lib.runeCount y.ve : Nat) : Int)))) (congrArg (Value.int .i64) (show IntKind.i64.wrap ((ap6 : Int) + ((Lib.runeCount y.ve : Nat) : Int)) = ((ap6 + Lib.runeCount y.ve : Nat) : Int) by rw [IntKind.wrap_i64]; omega))
              have hS := HF.out.cells
              have hE := HEL _ _ HF.out
              refine hK.out _ _ ⟨hS.2.2.2.2.1, ⟨hS.2.2.2.2.2.1, hS.2.2.2.2.2.2.1, hS.2.2.2.2.2.2.2.1⟩, hE.1, hE.2⟩ (fun hHeld => ?_)
              clear hK K
              refine wpAnyH_done (by kernel_rfl) ?_ _
              try simp only [Act.put, List.setIfInBounds_toArray, List.set_cons_zero, List.set_cons_succ]
              go_wp2_with fail
              go_meet
              exact ⟨_, by omega, HF⟩
            · go_simp
              (go_at_call 48; refine (HC y.ve hye _).out.mono ?_; rintro e w2 ⟨rfl, hb⟩; have HR2 := Aside0.mk (HRD.out.below (HSZ _ _ _ _ _ HRD.out) hb); obtain ⟨d0, d1, d2, d3, d5, t5, t7, t8, hg⟩ := HR2.out.cells; obtain ⟨e0, e1⟩ := HEL _ _ HR2.out; have hg0 := hg 0; clear hb hg)
              try go_wp2_with fail
              refine hK.out _ _ ⟨d5, ⟨t5, t7, t8⟩, e0, e1⟩ (fun hHeld => ?_)
              clear hK K
              try simp only [Act.put, List.setIfInBounds_toArray, List.set_cons_zero, List.set_cons_succ]
              refine LstR16.ac3 (by kernel_rfl) (fun K hK => ?_)
              go_simp
              refine hK.out _ _ hHeld (fun hHeld => ?_)
              clear hK K
              try simp only [Act.put, List.setIfInBounds_toArray, List.set_cons_zero, List.set_cons_succ]
              refine LstR16.tk12 (v := ?_) (by kernel_rfl) (by kernel_rfl) (by kernel_rfl) (fun _ _ _ h => h) (Or.inl ⟨by rfl, ?_⟩) hHeld ?_
              rotate_left
              · (intro w hSw; obtain ⟨k1, ⟨k2, k5, k6⟩, k3, k4⟩ := hSw; go_simp; try with_reducible rfl)
              try simp only [Act.put, List.setIfInBounds_toArray, List.set_cons_zero, List.set_cons_succ]
              refine LstR16.tk13 (v := ?_) (by kernel_rfl) (by kernel_rfl) (by kernel_rfl) (fun _ _ _ h => h) (Or.inl ⟨by rfl, ?_⟩) hHeld ?_
              rotate_left
              · (intro w hSw; obtain ⟨k1, ⟨k2, k5, k6⟩, k3, k4⟩ := hSw; go_simp; try with_reducible rfl)
              try simp only [Act.put, List.setIfInBounds_toArray, List.set_cons_zero, List.set_cons_succ]
              refine LstR16.tk14 (v := ?_) (by kernel_rfl) (by kernel_rfl) (by kernel_rfl) (fun _ _ _ h => h) (Or.inl ⟨by rfl, ?_⟩) hHeld ?_
              rotate_left
              · (intro w hSw; obtain ⟨k1, ⟨k2, k5, k6⟩, k3, k4⟩ := hSw; go_simp; try with_reducible rfl)
              try simp only [Act.put, List.setIfInBounds_toArray, List.set_cons_zero, List.set_cons_succ]
              have HPT : ∀ u, u = Value.int .i64 (((ap6 + Lib.runeCount y.ve : Nat)) : Int) → Aside0 (RS B w0 q qs gs its lev y (ofL (Lib.repeatL [32] (Lib.runeCount y.ve))) ⟨#[]⟩ (ap6 + Lib.runeCount y.ve) (.slice (some ad) gs.length c) (w2.setCell ⟨q, 0, none⟩ u)) := fun u hu => Aside0.mk (HR2.out.put 0 u (by rw [hu]; rfl))
              refine LstR16.ac15 (by kernel_rfl) (fun K hK => ?_)
              go_simp
              have HF := HPT (.int .i64 (IntKind.i64.wrap ((ap6 : Int) + ((Lib.runeCount y.ve : Nat) : Int)))) (congrArg (Value.int .i64) (show IntKind.i64.wrap ((ap6 : Int) + ((Lib.runeCount y.ve : Nat) : Int)) = ((ap6 + Lib.runeCount y.ve : Nat) : Int) by rw [IntKind.wrap_i64]; omega))
              have hS := HF.out.cells
              have hE := HEL _ _ HF.out
              refine hK.out _ _ ⟨hS.2.2.2.2.1, ⟨hS.2.2.2.2.2.1, hS.2.2.2.2.2.2.1, hS.2.2.2.2.2.2.2.1⟩, hE.1, hE.2⟩ (fun hHeld => ?_)
              clear hK K
              refine wpAnyH_done (by kernel_rfl) ?_ _
              try simp only [Act.put, List.setIfInBounds_toArray, List.set_cons_zero, List.set_cons_succ]
              go_wp2_with fail
              go_meet
              exact ⟨_, by omega, HF⟩
          case rest =>
            obtain ⟨ap9, hap9, HR9⟩ := hcut
            obtain ⟨g0, g1⟩ := HEL _ _ HR9.out
            go_upto_region 10 with fail
            go_cut [] from 85 to 96 (fun wx => ∃ ap1 : Nat, ap1 ≤ k * 1100000 + 1003000 ∧ Aside0 (RS B w0 q qs gs its lev y (ofL (Lib.repeatL [32] (Lib.runeCount y.ve))) ⟨#[]⟩ ap1 (.slice (some ad) gs.length c) wx))
            case first =>
              have HRD := Aside0.mk (HR9.out.below (HSZ _ _ _ _ _ HR9.out) (below_drew1 (Below.refl _ _)))
              obtain ⟨c0, c1, c2, c3, c5, s5, s7, s8, hf⟩ := HRD.out.cells
              obtain ⟨g0, g1⟩ := HEL _ _ HRD.out
              refine wp_region_held_drew (S := fun w' => w'.cell? ⟨q, 5, none⟩ = some (.pointer (some ⟨qs, 0, none⟩)) ∧ (w'.cell? ⟨qs, 5, none⟩ = some (.string y.ve) ∧ w'.cell? ⟨qs, 7, none⟩ = some (.string ⟨#[10]⟩) ∧ w'.cell? ⟨qs, 8, none⟩ = some (.string y.px)) ∧ w'.cell? ⟨g, 0, none⟩ = some (.int .i64 (lv : Int)) ∧ w'.cell? ⟨g, 1, none⟩ = some (.string tx)) (by kernel_rfl) ⟨c5, ⟨s5, s7, s8⟩, g0, g1⟩ (fun hHeld => ?_)
              refine LstR13.tk0 (v := ?_) (by kernel_rfl) (by kernel_rfl) (by kernel_rfl) (fun _ _ _ h => h) (Or.inl ⟨by rfl, ?_⟩) hHeld ?_
              rotate_left
              · (intro w hSw; obtain ⟨k1, ⟨k2, k5, k6⟩, k3, k4⟩ := hSw; go_simp; try with_reducible rfl)
              try simp only [Act.put, List.setIfInBounds_toArray, List.set_cons_zero, List.set_cons_succ]
              refine LstR13.tk1 (v := ?_) (by kernel_rfl) (by kernel_rfl) (by kernel_rfl) (fun _ _ _ h => h) (Or.inl ⟨by rfl, ?_⟩) hHeld ?_
              rotate_left
              · (intro w hSw; obtain ⟨k1, ⟨k2, k5, k6⟩, k3, k4⟩ := hSw; go_simp; try with_reducible rfl)
              try simp only [Act.put, List.setIfInBounds_toArray, List.set_cons_zero, List.set_cons_succ]
              refine LstR13.tk2 (v := ?_) (by kernel_rfl) (by kernel_rfl) (by kernel_rfl) (fun _ _ _ h => h) (Or.inl ⟨by rfl, ?_⟩) hHeld ?_
              rotate_left
              · (intro w hSw; obtain ⟨k1, ⟨k2, k5, k6⟩, k3, k4⟩ := hSw; go_simp; try with_reducible rfl)
              try simp only [Act.put, List.setIfInBounds_toArray, List.set_cons_zero, List.set_cons_succ]
              refine LstR13.tk4 (v := ?_) (by kernel_rfl) (by kernel_rfl) (by kernel_rfl) (fun _ _ _ h => h) (Or.inl ⟨by rfl, ?_⟩) hHeld ?_
              rotate_left
              · (intro w hSw; obtain ⟨k1, ⟨k2, k5, k6⟩, k3, k4⟩ := hSw; go_simp; try with_reducible rfl)
              try simp only [Act.put, List.setIfInBounds_toArray, List.set_cons_zero, List.set_cons_succ]
              refine LstR13.tk5 (v := ?_) (by kernel_rfl) (by kernel_rfl) (by kernel_rfl) (fun _ _ _ h => h) (Or.inl ⟨by rfl, ?_⟩) hHeld ?_
              rotate_left
              · (intro w hSw; obtain ⟨k1, ⟨k2, k5, k6⟩, k3, k4⟩ := hSw; go_simp; try with_reducible rfl)
              try simp only [Act.put, List.setIfInBounds_toArray, List.set_cons_zero, List.set_cons_succ]
              refine LstR13.tk6 (v := ?_) (by kernel_rfl) (by kernel_rfl) (by kernel_rfl) (fun _ _ _ h => h) (Or.inl ⟨by rfl, ?_⟩) hHeld ?_
              rotate_left
              · (intro w hSw; obtain ⟨k1, ⟨k2, k5, k6⟩, k3, k4⟩ := hSw; go_simp; try with_reducible rfl)
              try simp only [Act.put, List.setIfInBounds_toArray, List.set_cons_zero, List.set_cons_succ]
              refine LstR13.tk7 (v := ?_) (by kernel_rfl) (by kernel_rfl) (by kernel_rfl) (fun _ _ _ h => h) (Or.inl ⟨by rfl, ?_⟩) hHeld ?_
              rotate_left
              · (intro w hSw; obtain ⟨k1, ⟨k2, k5, k6⟩, k3, k4⟩ := hSw; go_simp; try with_reducible rfl)
              try simp only [Act.put, List.setIfInBounds_toArray, List.set_cons_zero, List.set_cons_succ]
              refine LstR13.ac3_8 (by kernel_rfl) (fun K hK => ?_) (fun K hK => ?_)
              · go_simp
                refine hK.out _ _ hHeld (fun hHeld => ?_)
                clear hK K
                try simp only [Act.put, List.setIfInBounds_toArray, List.set_cons_zero, List.set_cons_succ]
                refine LstR13.ac8 (by kernel_rfl) (fun K hK => ?_)
                go_simp
                (go_at_call 48; refine (HC tx htx _).out.mono ?_; rintro e w2 ⟨rfl, hb⟩; have HR2 := Aside0.mk (HRD.out.below (HSZ _ _ _ _ _ HRD.out) hb); obtain ⟨d0, d1, d2, d3, d5, t5, t7, t8, hg⟩ := HR2.out.cells; obtain ⟨e0, e1⟩ := HEL _ _ HR2.out; have hg0 := hg 0; clear hb hg)
                try go_wp2_with fail
                refine hK.out _ _ ⟨d5, ⟨t5, t7, t8⟩, e0, e1⟩ (fun hHeld => ?_)
                clear hK K
                try simp only [Act.put, List.setIfInBounds_toArray, List.set_cons_zero, List.set_cons_succ]
                refine LstR13.tk9 (v := ?_) (by kernel_rfl) (by kernel_rfl) (by kernel_rfl) (fun _ _ _ h => h) (Or.inl ⟨by rfl, ?_⟩) hHeld ?_
                rotate_left
                · (intro w hSw; obtain ⟨k1, ⟨k2, k5, k6⟩, k3, k4⟩ := hSw; go_simp; try with_reducible rfl)
                try simp only [Act.put, List.setIfInBounds_toArray, List.set_cons_zero, List.set_cons_succ]
                refine LstR13.tk10 (v := ?_) (by kernel_rfl) (by kernel_rfl) (by kernel_rfl) (fun _ _ _ h => h) (Or.inl ⟨by rfl, ?_⟩) hHeld ?_
                rotate_left
                · (intro w hSw; obtain ⟨k1, ⟨k2, k5, k6⟩, k3, k4⟩ := hSw; go_simp; try with_reducible rfl)
                try simp only [Act.put, List.setIfInBounds_toArray, List.set_cons_zero, List.set_cons_succ]
                refine LstR13.tk11 (v := ?_) (by kernel_rfl) (by kernel_rfl) (by kernel_rfl) (fun _ _ _ h => h) (Or.inl ⟨by rfl, ?_⟩) hHeld ?_
                rotate_left
                · (intro w hSw; obtain ⟨k1, ⟨k2, k5, k6⟩, k3, k4⟩ := hSw; go_simp; try with_reducible rfl)
                try simp only [Act.put, List.setIfInBounds_toArray, List.set_cons_zero, List.set_cons_succ]
                have HPT : ∀ u, u = Value.int .i64 (((ap9 + Lib.runeCount tx : Nat)) : Int) → Aside0 (RS B w0 q qs gs its lev y (ofL (Lib.repeatL [32] (Lib.runeCount y.ve))) ⟨#[]⟩ (ap9 + Lib.runeCount tx) (.slice (some ad) gs.length c) (w2.setCell ⟨q, 0, none⟩ u)) := fun u hu => Aside0.mk (HR2.out.put 0 u (by rw [hu]; rfl))
                refine LstR13.ac12 (by kernel_rfl) (fun K hK => ?_)
                go_simp
                have HF := HPT (.int .i64 (IntKind.i64.wrap ((ap9 : Int) + ((Lib.runeCount tx : Nat) : Int)))) (congrArg (Value.int .i64) (show IntKind.i64.wrap ((ap9 : Int) + ((Lib.runeCount tx : Nat) : Int)) = ((ap9 + Lib.runeCount tx : Nat) : Int) by rw [IntKind.wrap_i64]; omega))
                have hS := HF.out.cells
                have hE := HEL _ _ HF.out
                refine hK.out _ _ ⟨hS.2.2.2.2.1, ⟨hS.2.2.2.2.2.1, hS.2.2.2.2.2.2.1, hS.2.2.2.2.2.2.2.1⟩, hE.1, hE.2⟩ (fun hHeld => ?_)
                clear hK K
                refine wpAnyH_done (by kernel_rfl) ?_ _
                try simp only [Act.put, List.setIfInBounds_toArray, List.set_cons_zero, List.set_cons_succ]
                go_wp2_with fail
                go_meet
                exact ⟨_, by omega, HF⟩
              · go_simp
                (go_at_call 48; refine (HC tx htx _).out.mono ?_; rintro e w2 ⟨rfl, hb⟩; have HR2 := Aside0.mk (HRD.out.below (HSZ _ _ _ _ _ HRD.out) hb); obtain ⟨d0, d1, d2, d3, d5, t5, t7, t8, hg⟩ := HR2.out.cells; obtain ⟨e0, e1⟩ := HEL _ _ HR2.out; have hg0 := hg 0; clear hb hg)
                try go_wp2_with fail
                refine hK.out _ _ ⟨d5, ⟨t5, t7, t8⟩, e0, e1⟩ (fun hHeld => ?_)
                clear hK K
                try simp only [Act.put, List.setIfInBounds_toArray, List.set_cons_zero, List.set_cons_succ]
                refine LstR13.ac3 (by kernel_rfl) (fun K hK => ?_)
                go_simp
                refine hK.out _ _ hHeld (fun hHeld => ?_)
                clear hK K
                try simp only [Act.put, List.setIfInBounds_toArray, List.set_cons_zero, List.set_cons_succ]
                refine LstR13.tk9 (v := ?_) (by kernel_rfl) (by kernel_rfl) (by kernel_rfl) (fun _ _ _ h => h) (Or.inl ⟨by rfl, ?_⟩) hHeld ?_
                rotate_left
                · (intro w hSw; obtain ⟨k1, ⟨k2, k5, k6⟩, k3, k4⟩ := hSw; go_simp; try with_reducible rfl)
                try simp only [Act.put, List.setIfInBounds_toArray, List.set_cons_zero, List.set_cons_succ]
                refine LstR13.tk10 (v := ?_) (by kernel_rfl) (by kernel_rfl) (by kernel_rfl) (fun _ _ _ h => h) (Or.inl ⟨by rfl, ?_⟩) hHeld ?_
                rotate_left
                · (intro w hSw; obtain ⟨k1, ⟨k2, k5, k6⟩, k3, k4⟩ := hSw; go_simp; try with_reducible rfl)
                try simp only [Act.put, List.setIfInBounds_toArray, List.set_cons_zero, List.set_cons_succ]
                refine LstR13.tk11 (v := ?_) (by kernel_rfl) (by kernel_rfl) (by kernel_rfl) (fun _ _ _ h => h) (Or.inl ⟨by rfl, ?_⟩) hHeld ?_
                rotate_left
                · (intro w hSw; obtain ⟨k1, ⟨k2, k5, k6⟩, k3, k4⟩ := hSw; go_simp; try with_reducible rfl)
                try simp only [Act.put, List.setIfInBounds_toArray, List.set_cons_zero, List.set_cons_succ]
                have HPT : ∀ u, u = Value.int .i64 (((ap9 + Lib.runeCount tx : Nat)) : Int) → Aside0 (RS B w0 q qs gs its lev y (ofL (Lib.repeatL [32] (Lib.runeCount y.ve))) ⟨#[]⟩ (ap9 + Lib.runeCount tx) (.slice (some ad) gs.length c) (w2.setCell ⟨q, 0, none⟩ u)) := fun u hu => Aside0.mk (HR2.out.put 0 u (by rw [hu]; rfl))
                refine LstR13.ac12 (by kernel_rfl) (fun K hK => ?_)
                go_simp
                have HF := HPT (.int .i64 (IntKind.i64.wrap ((ap9 : Int) + ((Lib.runeCount tx : Nat) : Int)))) (congrArg (Value.int .i64) (show IntKind.i64.wrap ((ap9 : Int) + ((Lib.runeCount tx : Nat) : Int)) = ((ap9 + Lib.runeCount tx : Nat) : Int) by rw [IntKind.wrap_i64]; omega))
                have hS := HF.out.cells
                have hE := HEL _ _ HF.out
                refine hK.out _ _ ⟨hS.2.2.2.2.1, ⟨hS.2.2.2.2.2.1, hS.2.2.2.2.2.2.1, hS.2.2.2.2.2.2.2.1⟩, hE.1, hE.2⟩ (fun hHeld => ?_)
                clear hK K
                refine wpAnyH_done (by kernel_rfl) ?_ _
                try simp only [Act.put, List.setIfInBounds_toArray, List.set_cons_zero, List.set_cons_succ]
                go_wp2_with fail
                go_meet
                exact ⟨_, by omega, HF⟩
            case rest =>
              obtain ⟨ap10, hap10, HR10⟩ := hcut
              obtain ⟨g0, g1⟩ := HEL _ _ HR10.out
              go_upto_region 11 with fail
              have HRD := Aside0.mk (HR10.out.below (HSZ _ _ _ _ _ HR10.out) (below_drew1 (Below.refl _ _)))
              obtain ⟨c0, c1, c2, c3, c5, s5, s7, s8, hf⟩ := HRD.out.cells
              obtain ⟨g0, g1⟩ := HEL _ _ HRD.out
              refine wp_region_held_drew (S := fun w' => w'.cell? ⟨q, 5, none⟩ = some (.pointer (some ⟨qs, 0, none⟩)) ∧ (w'.cell? ⟨qs, 5, none⟩ = some (.string y.ve) ∧ w'.cell? ⟨qs, 7, none⟩ = some (.string ⟨#[10]⟩) ∧ w'.cell? ⟨qs, 8, none⟩ = some (.string y.px)) ∧ w'.cell? ⟨g, 0, none⟩ = some (.int .i64 (lv : Int)) ∧ w'.cell? ⟨g, 1, none⟩ = some (.string tx)) (by kernel_rfl) ⟨c5, ⟨s5, s7, s8⟩, g0, g1⟩ (fun hHeld => ?_)
              refine LstR16.tk0 (v := ?_) (by kernel_rfl) (by kernel_rfl) (by kernel_rfl) (fun _ _ _ h => h) (Or.inl ⟨by rfl, ?_⟩) hHeld ?_
              rotate_left
              · (intro w hSw; obtain ⟨k1, ⟨k2, k5, k6⟩, k3, k4⟩ := hSw; go_simp; try with_reducible rfl)
              try simp only [Act.put, List.setIfInBounds_toArray, List.set_cons_zero, List.set_cons_succ]
              refine LstR16.tk1 (v := ?_) (by kernel_rfl) (by kernel_rfl) (by kernel_rfl) (fun _ _ _ h => h) (Or.inl ⟨by rfl, ?_⟩) hHeld ?_
              rotate_left
              · (intro w hSw; obtain ⟨k1, ⟨k2, k5, k6⟩, k3, k4⟩ := hSw; go_simp; try with_reducible rfl)
              try simp only [Act.put, List.setIfInBounds_toArray, List.set_cons_zero, List.set_cons_succ]
              refine LstR16.tk2 (v := ?_) (by kernel_rfl) (by kernel_rfl) (by kernel_rfl) (fun _ _ _ h => h) (Or.inl ⟨by rfl, ?_⟩) hHeld ?_
              rotate_left
              · (intro w hSw; obtain ⟨k1, ⟨k2, k5, k6⟩, k3, k4⟩ := hSw; go_simp; try with_reducible rfl)
              try simp only [Act.put, List.setIfInBounds_toArray, List.set_cons_zero, List.set_cons_succ]
              refine LstR16.tk4 (v := ?_) (by kernel_rfl) (by kernel_rfl) (by kernel_rfl) (fun _ _ _ h => h) (Or.inl ⟨by rfl, ?_⟩) hHeld ?_
              rotate_left
              · (intro w hSw; obtain ⟨k1, ⟨k2, k5, k6⟩, k3, k4⟩ := hSw; go_simp; try with_reducible rfl)
              try simp only [Act.put, List.setIfInBounds_toArray, List.set_cons_zero, List.set_cons_succ]
              refine LstR16.tk5 (v := ?_) (by kernel_rfl) (by kernel_rfl) (by kernel_rfl) (fun _ _ _ h => h) (Or.inl ⟨by rfl, ?_⟩) hHeld ?_
              rotate_left
              · (intro w hSw; obtain ⟨k1, ⟨k2, k5, k6⟩, k3, k4⟩ := hSw; go_simp; try with_reducible rfl)
              try simp only [Act.put, List.setIfInBounds_toArray, List.set_cons_zero, List.set_cons_succ]
              refine LstR16.tk6 (v := ?_) (by kernel_rfl) (by kernel_rfl) (by kernel_rfl) (fun _ _ _ h => h) (Or.inl ⟨by rfl, ?_⟩) hHeld ?_
              rotate_left
              · (intro w hSw; obtain ⟨k1, ⟨k2, k5, k6⟩, k3, k4⟩ := hSw; go_simp; try with_reducible rfl)
              try simp only [Act.put, List.setIfInBounds_toArray, List.set_cons_zero, List.set_cons_succ]
              refine LstR16.tk7 (v := ?_) (by kernel_rfl) (by kernel_rfl) (by kernel_rfl) (fun _ _ _ h => h) (Or.inl ⟨by rfl, ?_⟩) hHeld ?_
              rotate_left
              · (intro w hSw; obtain ⟨k1, ⟨k2, k5, k6⟩, k3, k4⟩ := hSw; go_simp; try with_reducible rfl)
              try simp only [Act.put, List.setIfInBounds_toArray, List.set_cons_zero, List.set_cons_succ]
              refine LstR16.tk8 (v := ?_) (by kernel_rfl) (by kernel_rfl) (by kernel_rfl) (fun _ _ _ h => h) (Or.inl ⟨by rfl, ?_⟩) hHeld ?_
              rotate_left
              · (intro w hSw; obtain ⟨k1, ⟨k2, k5, k6⟩, k3, k4⟩ := hSw; go_simp; try with_reducible rfl)
              try simp only [Act.put, List.setIfInBounds_toArray, List.set_cons_zero, List.set_cons_succ]
              refine LstR16.tk9 (v := ?_) (by kernel_rfl) (by kernel_rfl) (by kernel_rfl) (fun _ _ _ h => h) (Or.inl ⟨by rfl, ?_⟩) hHeld ?_
              rotate_left
              · (intro w hSw; obtain ⟨k1, ⟨k2, k5, k6⟩, k3, k4⟩ := hSw; go_simp; try with_reducible rfl)
              try simp only [Act.put, List.setIfInBounds_toArray, List.set_cons_zero, List.set_cons_succ]
              refine LstR16.tk10 (v := ?_) (by kernel_rfl) (by kernel_rfl) (by kernel_rfl) (fun _ _ _ h => h) (Or.inl ⟨by rfl, ?_⟩) hHeld ?_
              rotate_left
              · (intro w hSw; obtain ⟨k1, ⟨k2, k5, k6⟩, k3, k4⟩ := hSw; go_simp; try with_reducible rfl)
              try simp only [Act.put, List.setIfInBounds_toArray, List.set_cons_zero, List.set_cons_succ]
              refine LstR16.ac3_11 (by kernel_rfl) (fun K hK => ?_) (fun K hK => ?_)
              · go_simp
                refine hK.out _ _ hHeld (fun hHeld => ?_)
                clear hK K
                try simp only [Act.put, List.setIfInBounds_toArray, List.set_cons_zero, List.set_cons_succ]
                refine LstR16.ac11 (by kernel_rfl) (fun K hK => ?_)
                go_simp
                (go_at_call 48; refine (HCN _).out.mono ?_; rintro e w2 ⟨rfl, hb⟩; have HR2 := Aside0.mk (HRD.out.below (HSZ _ _ _ _ _ HRD.out) hb); obtain ⟨d0, d1, d2, d3, d5, t5, t7, t8, hg⟩ := HR2.out.cells; obtain ⟨e0, e1⟩ := HEL _ _ HR2.out; have hg0 := hg 0; clear hb hg)
                try go_wp2_with fail
                refine hK.out _ _ ⟨d5, ⟨t5, t7, t8⟩, e0, e1⟩ (fun hHeld => ?_)
                clear hK K
                try simp only [Act.put, List.setIfInBounds_toArray, List.set_cons_zero, List.set_cons_succ]
                refine LstR16.tk12 (v := ?_) (by kernel_rfl) (by kernel_rfl) (by kernel_rfl) (fun _ _ _ h => h) (Or.inl ⟨by rfl, ?_⟩) hHeld ?_
                rotate_left
                · (intro w hSw; obtain ⟨k1, ⟨k2, k5, k6⟩, k3, k4⟩ := hSw; go_simp; try with_reducible rfl)
                try simp only [Act.put, List.setIfInBounds_toArray, List.set_cons_zero, List.set_cons_succ]
                refine LstR16.tk13 (v := ?_) (by kernel_rfl) (by kernel_rfl) (by kernel_rfl) (fun _ _ _ h => h) (Or.inl ⟨by rfl, ?_⟩) hHeld ?_
                rotate_left
                · (intro w hSw; obtain ⟨k1, ⟨k2, k5, k6⟩, k3, k4⟩ := hSw; go_simp; try with_reducible rfl)
                try simp only [Act.put, List.setIfInBounds_toArray, List.set_cons_zero, List.set_cons_succ]
                refine LstR16.tk14 (v := ?_) (by kernel_rfl) (by kernel_rfl) (by kernel_rfl) (fun _ _ _ h => h) (Or.inl ⟨by rfl, ?_⟩) hHeld ?_
                rotate_left
                · (intro w hSw; obtain ⟨k1, ⟨k2, k5, k6⟩, k3, k4⟩ := hSw; go_simp; try with_reducible rfl)
                try simp only [Act.put, List.setIfInBounds_toArray, List.set_cons_zero, List.set_cons_succ]
                have HPT : ∀ u, u = Value.int .i64 (((ap10 + rn : Nat)) : Int) → Aside0 (RS B w0 q qs gs its lev y (ofL (Lib.repeatL [32] (Lib.runeCount y.ve))) ⟨#[]⟩ (ap10 + rn) (.slice (some ad) gs.length c) (w2.setCell ⟨q, 0, none⟩ u)) := fun u hu => Aside0.mk (HR2.out.put 0 u (by rw [hu]; rfl))
                refine LstR16.ac15 (by kernel_rfl) (fun K hK => ?_)
                go_simp
                have HF := HPT (.int .i64 (IntKind.i64.wrap ((ap10 : Int) + ((rn : Nat) : Int)))) (congrArg (Value.int .i64) (show IntKind.i64.wrap ((ap10 : Int) + ((rn : Nat) : Int)) = ((ap10 + rn : Nat) : Int) by rw [IntKind.wrap_i64]; omega))
                have hS := HF.out.cells
                have hE := HEL _ _ HF.out
                refine hK.out _ _ ⟨hS.2.2.2.2.1, ⟨hS.2.2.2.2.2.1, hS.2.2.2.2.2.2.1, hS.2.2.2.2.2.2.2.1⟩, hE.1, hE.2⟩ (fun hHeld => ?_)
                clear hK K
                refine wpAnyH_done (by kernel_rfl) ?_ _
                try simp only [Act.put, List.setIfInBounds_toArray, List.set_cons_zero, List.set_cons_succ]
                go_wp2
                go_roundw
                case rel => exact ⟨k + 1, (ap10 + rn), by go_num, by omega, by omega, by first | exact HF | exact HPT _ (congrArg (Value.int .i64) (by push_cast; rfl)) | exact HPT _ (congrArg (Value.int .i64) (by push_cast; omega))⟩
                case measure => simp [intOf]; omega
              · go_simp
                (go_at_call 48; refine (HCN _).out.mono ?_; rintro e w2 ⟨rfl, hb⟩; have HR2 := Aside0.mk (HRD.out.below (HSZ _ _ _ _ _ HRD.out) hb); obtain ⟨d0, d1, d2, d3, d5, t5, t7, t8, hg⟩ := HR2.out.cells; obtain ⟨e0, e1⟩ := HEL _ _ HR2.out; have hg0 := hg 0; clear hb hg)
                try go_wp2_with fail
                refine hK.out _ _ ⟨d5, ⟨t5, t7, t8⟩, e0, e1⟩ (fun hHeld => ?_)
                clear hK K
                try simp only [Act.put, List.setIfInBounds_toArray, List.set_cons_zero, List.set_cons_succ]
                refine LstR16.ac3 (by kernel_rfl) (fun K hK => ?_)
                go_simp
                refine hK.out _ _ hHeld (fun hHeld => ?_)
                clear hK K
                try simp only [Act.put, List.setIfInBounds_toArray, List.set_cons_zero, List.set_cons_succ]
                refine LstR16.tk12 (v := ?_) (by kernel_rfl) (by kernel_rfl) (by kernel_rfl) (fun _ _ _ h => h) (Or.inl ⟨by rfl, ?_⟩) hHeld ?_
                rotate_left
                · (intro w hSw; obtain ⟨k1, ⟨k2, k5, k6⟩, k3, k4⟩ := hSw; go_simp; try with_reducible rfl)
                try simp only [Act.put, List.setIfInBounds_toArray, List.set_cons_zero, List.set_cons_succ]
                refine LstR16.tk13 (v := ?_) (by kernel_rfl) (by kernel_rfl) (by kernel_rfl) (fun _ _ _ h => h) (Or.inl ⟨by rfl, ?_⟩) hHeld ?_
                rotate_left
                · (intro w hSw; obtain ⟨k1, ⟨k2, k5, k6⟩, k3, k4⟩ := hSw; go_simp; try with_reducible rfl)
                try simp only [Act.put, List.setIfInBounds_toArray, List.set_cons_zero, List.set_cons_succ]
                refine LstR16.tk14 (v := ?_) (by kernel_rfl) (by kernel_rfl) (by kernel_rfl) (fun _ _ _ h => h) (Or.inl ⟨by rfl, ?_⟩) hHeld ?_
                rotate_left
                · (intro w hSw; obtain ⟨k1, ⟨k2, k5, k6⟩, k3, k4⟩ := hSw; go_simp; try with_reducible rfl)
                try simp only [Act.put, List.setIfInBounds_toArray, List.set_cons_zero, List.set_cons_succ]
                have HPT : ∀ u, u = Value.int .i64 (((ap10 + rn : Nat)) : Int) → Aside0 (RS B w0 q qs gs its lev y (ofL (Lib.repeatL [32] (Lib.runeCount y.ve))) ⟨#[]⟩ (ap10 + rn) (.slice (some ad) gs.length c) (w2.setCell ⟨q, 0, none⟩ u)) := fun u hu => Aside0.mk (HR2.out.put 0 u (by rw [hu]; rfl))
                refine LstR16.ac15 (by kernel_rfl) (fun K hK => ?_)
                go_simp
                have HF := HPT (.int .i64 (IntKind.i64.wrap ((ap10 : Int) + ((rn : Nat) : Int)))) (congrArg (Value.int .i64) (show IntKind.i64.wrap ((ap10 : Int) + ((rn : Nat) : Int)) = ((ap10 + rn : Nat) : Int) by rw [IntKind.wrap_i64]; omega))
                have hS := HF.out.cells
                have hE := HEL _ _ HF.out
                refine hK.out _ _ ⟨hS.2.2.2.2.1, ⟨hS.2.2.2.2.2.1, hS.2.2.2.2.2.2.1, hS.2.2.2.2.2.2.2.1⟩, hE.1, hE.2⟩ (fun hHeld => ?_)
                clear hK K
                refine wpAnyH_done (by kernel_rfl) ?_ _
                try simp only [Act.put, List.setIfInBounds_toArray, List.set_cons_zero, List.set_cons_succ]
                go_wp2
                go_roundw
                case rel => exact ⟨k + 1, (ap10 + rn), by go_num, by omega, by omega, by first | exact HF | exact HPT _ (congrArg (Value.int .i64) (by push_cast; rfl)) | exact HPT _ (congrArg (Value.int .i64) (by push_cast; omega))⟩
                case measure => simp [intOf]; omega
      · have hdz : decide ((lv : Int) > 0) = true := decide_eq_true (by omega)
        go_upto_region 6 with fail
        go_cut [] from 30 to 44 (fun wx => ∃ ap1 : Nat, ap1 ≤ k * 1100000 + 1000 ∧ Aside0 (RS B w0 q qs gs its lev y (ofL (Lib.repeatL [32] (Lib.runeCount y.ve))) ⟨#[]⟩ ap1 (.slice (some ad) gs.length c) wx))
        case first =>
          have HRD := Aside0.mk (HR.out.below (HSZ _ _ _ _ _ HR.out) (below_drew1 (Below.refl _ _)))
          obtain ⟨c0, c1, c2, c3, c5, s5, s7, s8, hf⟩ := HRD.out.cells
          obtain ⟨g0, g1⟩ := HEL _ _ HRD.out
          refine wp_region_held_drew (S := fun w' => w'.cell? ⟨q, 5, none⟩ = some (.pointer (some ⟨qs, 0, none⟩)) ∧ (w'.cell? ⟨qs, 5, none⟩ = some (.string y.ve) ∧ w'.cell? ⟨qs, 7, none⟩ = some (.string ⟨#[10]⟩) ∧ w'.cell? ⟨qs, 8, none⟩ = some (.string y.px)) ∧ w'.cell? ⟨g, 0, none⟩ = some (.int .i64 (lv : Int)) ∧ w'.cell? ⟨g, 1, none⟩ = some (.string tx)) (by kernel_rfl) ⟨c5, ⟨s5, s7, s8⟩, g0, g1⟩ (fun hHeld => ?_)
          refine LstR16.tk0 (v := ?_) (by kernel_rfl) (by kernel_rfl) (by kernel_rfl) (fun _ _ _ h => h) (Or.inl ⟨by rfl, ?_⟩) hHeld ?_
          rotate_left
          · (intro w hSw; obtain ⟨k1, ⟨k2, k5, k6⟩, k3, k4⟩ := hSw; go_simp; try with_reducible rfl)
          try simp only [Act.put, List.setIfInBounds_toArray, List.set_cons_zero, List.set_cons_succ]
          refine LstR16.tk1 (v := ?_) (by kernel_rfl) (by kernel_rfl) (by kernel_rfl) (fun _ _ _ h => h) (Or.inl ⟨by rfl, ?_⟩) hHeld ?_
          rotate_left
          · (intro w hSw; obtain ⟨k1, ⟨k2, k5, k6⟩, k3, k4⟩ := hSw; go_simp; try with_reducible rfl)
          try simp only [Act.put, List.setIfInBounds_toArray, List.set_cons_zero, List.set_cons_succ]
          refine LstR16.tk2 (v := ?_) (by kernel_rfl) (by kernel_rfl) (by kernel_rfl) (fun _ _ _ h => h) (Or.inl ⟨by rfl, ?_⟩) hHeld ?_
          rotate_left
          · (intro w hSw; obtain ⟨k1, ⟨k2, k5, k6⟩, k3, k4⟩ := hSw; go_simp; try with_reducible rfl)
          try simp only [Act.put, List.setIfInBounds_toArray, List.set_cons_zero, List.set_cons_succ]
          refine LstR16.tk4 (v := ?_) (by kernel_rfl) (by kernel_rfl) (by kernel_rfl) (fun _ _ _ h => h) (Or.inl ⟨by rfl, ?_⟩) hHeld ?_
          rotate_left
          · (intro w hSw; obtain ⟨k1, ⟨k2, k5, k6⟩, k3, k4⟩ := hSw; go_simp; try with_reducible rfl)
          try simp only [Act.put, List.setIfInBounds_toArray, List.set_cons_zero, List.set_cons_succ]
          refine LstR16.tk5 (v := ?_) (by kernel_rfl) (by kernel_rfl) (by kernel_rfl) (fun _ _ _ h => h) (Or.inl ⟨by rfl, ?_⟩) hHeld ?_
          rotate_left
          · (intro w hSw; obtain ⟨k1, ⟨k2, k5, k6⟩, k3, k4⟩ := hSw; go_simp; try with_reducible rfl)
          try simp only [Act.put, List.setIfInBounds_toArray, List.set_cons_zero, List.set_cons_succ]
          refine LstR16.tk6 (v := ?_) (by kernel_rfl) (by kernel_rfl) (by kernel_rfl) (fun _ _ _ h => h) (Or.inl ⟨by rfl, ?_⟩) hHeld ?_
          rotate_left
          · (intro w hSw; obtain ⟨k1, ⟨k2, k5, k6⟩, k3, k4⟩ := hSw; go_simp; try with_reducible rfl)
          try simp only [Act.put, List.setIfInBounds_toArray, List.set_cons_zero, List.set_cons_succ]
          refine LstR16.tk7 (v := ?_) (by kernel_rfl) (by kernel_rfl) (by kernel_rfl) (fun _ _ _ h => h) (Or.inl ⟨by rfl, ?_⟩) hHeld ?_
          rotate_left
          · (intro w hSw; obtain ⟨k1, ⟨k2, k5, k6⟩, k3, k4⟩ := hSw; go_simp; try with_reducible rfl)
          try simp only [Act.put, List.setIfInBounds_toArray, List.set_cons_zero, List.set_cons_succ]
          refine LstR16.tk8 (v := ?_) (by kernel_rfl) (by kernel_rfl) (by kernel_rfl) (fun _ _ _ h => h) (Or.inl ⟨by rfl, ?_⟩) hHeld ?_
          rotate_left
          · (intro w hSw; obtain ⟨k1, ⟨k2, k5, k6⟩, k3, k4⟩ := hSw; go_simp; try with_reducible rfl)
          try simp only [Act.put, List.setIfInBounds_toArray, List.set_cons_zero, List.set_cons_succ]
          refine LstR16.tk9 (v := ?_) (by kernel_rfl) (by kernel_rfl) (by kernel_rfl) (fun _ _ _ h => h) (Or.inl ⟨by rfl, ?_⟩) hHeld ?_
          rotate_left
          · (intro w hSw; obtain ⟨k1, ⟨k2, k5, k6⟩, k3, k4⟩ := hSw; go_simp; try with_reducible rfl)
          try simp only [Act.put, List.setIfInBounds_toArray, List.set_cons_zero, List.set_cons_succ]
          refine LstR16.tk10 (v := ?_) (by kernel_rfl) (by kernel_rfl) (by kernel_rfl) (fun _ _ _ h => h) (Or.inl ⟨by rfl, ?_⟩) hHeld ?_
          rotate_left
          · (intro w hSw; obtain ⟨k1, ⟨k2, k5, k6⟩, k3, k4⟩ := hSw; go_simp; try with_reducible rfl)
          try simp only [Act.put, List.setIfInBounds_toArray, List.set_cons_zero, List.set_cons_succ]
          refine LstR16.ac3_11 (by kernel_rfl) (fun K hK => ?_) (fun K hK => ?_)
          · go_simp
            refine hK.out _ _ hHeld (fun hHeld => ?_)
            clear hK K
            try simp only [Act.put, List.setIfInBounds_toArray, List.set_cons_zero, List.set_cons_succ]
            refine LstR16.ac11 (by kernel_rfl) (fun K hK => ?_)
            go_simp
            (go_at_call 48; refine (HC y.px hyp _).out.mono ?_; rintro e w2 ⟨rfl, hb⟩; have HR2 := Aside0.mk (HRD.out.below (HSZ _ _ _ _ _ HRD.out) hb); obtain ⟨d0, d1, d2, d3, d5, t5, t7, t8, hg⟩ := HR2.out.cells; obtain ⟨e0, e1⟩ := HEL _ _ HR2.out; have hg0 := hg 0; clear hb hg)
            try go_wp2_with fail
            refine hK.out _ _ ⟨d5, ⟨t5, t7, t8⟩, e0, e1⟩ (fun hHeld => ?_)
            clear hK K
            try simp only [Act.put, List.setIfInBounds_toArray, List.set_cons_zero, List.set_cons_succ]
            refine LstR16.tk12 (v := ?_) (by kernel_rfl) (by kernel_rfl) (by kernel_rfl) (fun _ _ _ h => h) (Or.inl ⟨by rfl, ?_⟩) hHeld ?_
            rotate_left
            · (intro w hSw; obtain ⟨k1, ⟨k2, k5, k6⟩, k3, k4⟩ := hSw; go_simp; try with_reducible rfl)
            try simp only [Act.put, List.setIfInBounds_toArray, List.set_cons_zero, List.set_cons_succ]
            refine LstR16.tk13 (v := ?_) (by kernel_rfl) (by kernel_rfl) (by kernel_rfl) (fun _ _ _ h => h) (Or.inl ⟨by rfl, ?_⟩) hHeld ?_
            rotate_left
            · (intro w hSw; obtain ⟨k1, ⟨k2, k5, k6⟩, k3, k4⟩ := hSw; go_simp; try with_reducible rfl)
            try simp only [Act.put, List.setIfInBounds_toArray, List.set_cons_zero, List.set_cons_succ]
            refine LstR16.tk14 (v := ?_) (by kernel_rfl) (by kernel_rfl) (by kernel_rfl) (fun _ _ _ h => h) (Or.inl ⟨by rfl, ?_⟩) hHeld ?_
            rotate_left
            · (intro w hSw; obtain ⟨k1, ⟨k2, k5, k6⟩, k3, k4⟩ := hSw; go_simp; try with_reducible rfl)
            try simp only [Act.put, List.setIfInBounds_toArray, List.set_cons_zero, List.set_cons_succ]
            have HPT : ∀ u, u = Value.int .i64 (((ap + Lib.runeCount y.px : Nat)) : Int) → Aside0 (RS B w0 q qs gs its lev y (ofL (Lib.repeatL [32] (Lib.runeCount y.ve))) ⟨#[]⟩ (ap + Lib.runeCount y.px) (.slice (some ad) gs.length c) (w2.setCell ⟨q, 0, none⟩ u)) := fun u hu => Aside0.mk (HR2.out.put 0 u (by rw [hu]; rfl))
            refine LstR16.ac15 (by kernel_rfl) (fun K hK => ?_)
            go_simp
            have HF := HPT (.int .i64 (IntKind.i64.wrap ((ap : Int) + ((Lib.runeCount y.px : Nat) : Int)))) (congrArg (Value.int .i64) (show IntKind.i64.wrap ((ap : Int) + ((Lib.runeCount y.px : Nat) : Int)) = ((ap + Lib.runeCount y.px : Nat) : Int) by rw [IntKind.wrap_i64]; omega))
            have hS := HF.out.cells
            have hE := HEL _ _ HF.out
            refine hK.out _ _ ⟨hS.2.2.2.2.1, ⟨hS.2.2.2.2.2.1, hS.2.2.2.2.2.2.1, hS.2.2.2.2.2.2.2.1⟩, hE.1, hE.2⟩ (fun hHeld => ?_)
            clear hK K
            refine wpAnyH_done (by kernel_rfl) ?_ _
            try simp only [Act.put, List.setIfInBounds_toArray, List.set_cons_zero, List.set_cons_succ]
            go_wp2_with fail
            go_meet
            exact ⟨_, by omega, HF⟩
          · go_simp
            (go_at_call 48; refine (HC y.px hyp _).out.mono ?_; rintro e w2 ⟨rfl, hb⟩; have HR2 := Aside0.mk (HRD.out.below (HSZ _ _ _ _ _ HRD.out) hb); obtain ⟨d0, d1, d2, d3, d5, t5, t7, t8, hg⟩ := HR2.out.cells; obtain ⟨e0, e1⟩ := HEL _ _ HR2.out; have hg0 := hg 0; clear hb hg)
            try go_wp2_with fail
            refine hK.out _ _ ⟨d5, ⟨t5, t7, t8⟩, e0, e1⟩ (fun hHeld => ?_)
            clear hK K
            try simp only [Act.put, List.setIfInBounds_toArray, List.set_cons_zero, List.set_cons_succ]
            refine LstR16.ac3 (by kernel_rfl) (fun K hK => ?_)
            go_simp
            refine hK.out _ _ hHeld (fun hHeld => ?_)
            clear hK K
            try simp only [Act.put, List.setIfInBounds_toArray, List.set_cons_zero, List.set_cons_succ]
            refine LstR16.tk12 (v := ?_) (by kernel_rfl) (by kernel_rfl) (by kernel_rfl) (fun _ _ _ h => h) (Or.inl ⟨by rfl, ?_⟩) hHeld ?_
            rotate_left
            · (intro w hSw; obtain ⟨k1, ⟨k2, k5, k6⟩, k3, k4⟩ := hSw; go_simp; try with_reducible rfl)
            try simp only [Act.put, List.setIfInBounds_toArray, List.set_cons_zero, List.set_cons_succ]
            refine LstR16.tk13 (v := ?_) (by kernel_rfl) (by kernel_rfl) (by kernel_rfl) (fun _ _ _ h => h) (Or.inl ⟨by rfl, ?_⟩) hHeld ?_
            rotate_left
            · (intro w hSw; obtain ⟨k1, ⟨k2, k5, k6⟩, k3, k4⟩ := hSw; go_simp; try with_reducible rfl)
            try simp only [Act.put, List.setIfInBounds_toArray, List.set_cons_zero, List.set_cons_succ]
            refine LstR16.tk14 (v := ?_) (by kernel_rfl) (by kernel_rfl) (by kernel_rfl) (fun _ _ _ h => h) (Or.inl ⟨by rfl, ?_⟩) hHeld ?_
            rotate_left
            · (intro w hSw; obtain ⟨k1, ⟨k2, k5, k6⟩, k3, k4⟩ := hSw; go_simp; try with_reducible rfl)
            try simp only [Act.put, List.setIfInBounds_toArray, List.set_cons_zero, List.set_cons_succ]
            have HPT : ∀ u, u = Value.int .i64 (((ap + Lib.runeCount y.px : Nat)) : Int) → Aside0 (RS B w0 q qs gs its lev y (ofL (Lib.repeatL [32] (Lib.runeCount y.ve))) ⟨#[]⟩ (ap + Lib.runeCount y.px) (.slice (some ad) gs.length c) (w2.setCell ⟨q, 0, none⟩ u)) := fun u hu => Aside0.mk (HR2.out.put 0 u (by rw [hu]; rfl))
            refine LstR16.ac15 (by kernel_rfl) (fun K hK => ?_)
            go_simp
            have HF := HPT (.int .i64 (IntKind.i64.wrap ((ap : Int) + ((Lib.runeCount y.px : Nat) : Int)))) (congrArg (Value.int .i64) (show IntKind.i64.wrap ((ap : Int) + ((Lib.runeCount y.px : Nat) : Int)) = ((ap + Lib.runeCount y.px : Nat) : Int) by rw [IntKind.wrap_i64]; omega))
            have hS := HF.out.cells
            have hE := HEL _ _ HF.out
            refine hK.out _ _ ⟨hS.2.2.2.2.1, ⟨hS.2.2.2.2.2.1, hS.2.2.2.2.2.2.1, hS.2.2.2.2.2.2.2.1⟩, hE.1, hE.2⟩ (fun hHeld => ?_)
            clear hK K
            refine wpAnyH_done (by kernel_rfl) ?_ _
            try simp only [Act.put, List.setIfInBounds_toArray, List.set_cons_zero, List.set_cons_succ]
            go_wp2_with fail
            go_meet
            exact ⟨_, by omega, HF⟩
        case rest =>
          obtain ⟨ap6, hap6, HR6⟩ := hcut
          obtain ⟨g0, g1⟩ := HEL _ _ HR6.out
          go_upto_region 8 with fail
          go_cut [] from 45 to 69 (fun wx => ∃ ap1 : Nat, ap1 ≤ k * 1100000 + 1001000 ∧ Aside0 (RS B w0 q qs gs its lev y (ofL (Lib.repeatL [32] (Lib.runeCount y.ve))) ⟨#[]⟩ ap1 (.slice (some ad) gs.length c) wx))
          case first =>
            have HRD := Aside0.mk (HR6.out.below (HSZ _ _ _ _ _ HR6.out) (below_drew1 (Below.refl _ _)))
            obtain ⟨c0, c1, c2, c3, c5, s5, s7, s8, hf⟩ := HRD.out.cells
            obtain ⟨g0, g1⟩ := HEL _ _ HRD.out
            refine wp_region_held_drew (S := fun w' => w'.cell? ⟨q, 5, none⟩ = some (.pointer (some ⟨qs, 0, none⟩)) ∧ (w'.cell? ⟨qs, 5, none⟩ = some (.string y.ve) ∧ w'.cell? ⟨qs, 7, none⟩ = some (.string ⟨#[10]⟩) ∧ w'.cell? ⟨qs, 8, none⟩ = some (.string y.px)) ∧ w'.cell? ⟨g, 0, none⟩ = some (.int .i64 (lv : Int)) ∧ w'.cell? ⟨g, 1, none⟩ = some (.string tx)) (by kernel_rfl) ⟨c5, ⟨s5, s7, s8⟩, g0, g1⟩ (fun hHeld => ?_)
            refine LstR21.tk0 (v := ?_) (by kernel_rfl) (by kernel_rfl) (by kernel_rfl) (fun _ _ _ h => h) (Or.inl ⟨by rfl, ?_⟩) hHeld ?_
            rotate_left
            · (intro w hSw; obtain ⟨k1, ⟨k2, k5, k6⟩, k3, k4⟩ := hSw; go_simp; try with_reducible rfl)
            try simp only [Act.put, List.setIfInBounds_toArray, List.set_cons_zero, List.set_cons_succ]
            refine LstR21.tk1 (v := ?_) (by kernel_rfl) (by kernel_rfl) (by kernel_rfl) (fun _ _ _ h => h) (Or.inl ⟨by rfl, ?_⟩) hHeld ?_
            rotate_left
            · (intro w hSw; obtain ⟨k1, ⟨k2, k5, k6⟩, k3, k4⟩ := hSw; go_simp; try with_reducible rfl)
            try simp only [Act.put, List.setIfInBounds_toArray, List.set_cons_zero, List.set_cons_succ]
            refine LstR21.tk2 (v := ?_) (by kernel_rfl) (by kernel_rfl) (by kernel_rfl) (fun _ _ _ h => h) (Or.inl ⟨by rfl, ?_⟩) hHeld ?_
            rotate_left
            · (intro w hSw; obtain ⟨k1, ⟨k2, k5, k6⟩, k3, k4⟩ := hSw; go_simp; try with_reducible rfl)
            try simp only [Act.put, List.setIfInBounds_toArray, List.set_cons_zero, List.set_cons_succ]
            refine LstR21.tk4 (v := ?_) (by kernel_rfl) (by kernel_rfl) (by kernel_rfl) (fun _ _ _ h => h) (Or.inl ⟨by rfl, ?_⟩) hHeld ?_
            rotate_left
            · (intro w hSw; obtain ⟨k1, ⟨k2, k5, k6⟩, k3, k4⟩ := hSw; go_simp; try with_reducible rfl)
            try simp only [Act.put, List.setIfInBounds_toArray, List.set_cons_zero, List.set_cons_succ]
            refine LstR21.tk5 (v := ?_) (by kernel_rfl) (by kernel_rfl) (by kernel_rfl) (fun _ _ _ h => h) (Or.inl ⟨by rfl, ?_⟩) hHeld ?_
            rotate_left
            · (intro w hSw; obtain ⟨k1, ⟨k2, k5, k6⟩, k3, k4⟩ := hSw; go_simp; try with_reducible rfl)
            try simp only [Act.put, List.setIfInBounds_toArray, List.set_cons_zero, List.set_cons_succ]
            refine LstR21.tk6 (v := ?_) (by kernel_rfl) (by kernel_rfl) (by kernel_rfl) (fun _ _ _ h => h) (Or.inl ⟨by rfl, ?_⟩) hHeld ?_
            rotate_left
            · (intro w hSw; obtain ⟨k1, ⟨k2, k5, k6⟩, k3, k4⟩ := hSw; go_simp; try with_reducible rfl)
            try simp only [Act.put, List.setIfInBounds_toArray, List.set_cons_zero, List.set_cons_succ]
            refine LstR21.tk7 (v := ?_) (by kernel_rfl) (by kernel_rfl) (by kernel_rfl) (fun _ _ _ h => h) (Or.inl ⟨by rfl, ?_⟩) hHeld ?_
            rotate_left
            · (intro w hSw; obtain ⟨k1, ⟨k2, k5, k6⟩, k3, k4⟩ := hSw; go_simp; try with_reducible rfl)
            try simp only [Act.put, List.setIfInBounds_toArray, List.set_cons_zero, List.set_cons_succ]
            refine LstR21.tk8 (v := ?_) (by kernel_rfl) (by kernel_rfl) (by kernel_rfl) (fun _ _ _ h => h) (Or.inl ⟨by rfl, ?_⟩) hHeld ?_
            rotate_left
            · (intro w hSw; obtain ⟨k1, ⟨k2, k5, k6⟩, k3, k4⟩ := hSw; go_simp; try with_reducible rfl)
            try simp only [Act.put, List.setIfInBounds_toArray, List.set_cons_zero, List.set_cons_succ]
            refine LstR21.tk9 (v := ?_) (by kernel_rfl) (by kernel_rfl) (by kernel_rfl) (fun _ _ _ h => h) (Or.inl ⟨by rfl, ?_⟩) hHeld ?_
            rotate_left
            · (intro w hSw; obtain ⟨k1, ⟨k2, k5, k6⟩, k3, k4⟩ := hSw; go_simp; try with_reducible rfl)
            try simp only [Act.put, List.setIfInBounds_toArray, List.set_cons_zero, List.set_cons_succ]
            refine LstR21.tk10 (v := ?_) (by kernel_rfl) (by kernel_rfl) (by kernel_rfl) (fun _ _ _ h => h) (Or.inl ⟨by rfl, ?_⟩) hHeld ?_
            rotate_left
            · (intro w hSw; obtain ⟨k1, ⟨k2, k5, k6⟩, k3, k4⟩ := hSw; go_simp; try with_reducible rfl)
            try simp only [Act.put, List.setIfInBounds_toArray, List.set_cons_zero, List.set_cons_succ]
            refine LstR21.tk12 (v := ?_) (by kernel_rfl) (by kernel_rfl) (by kernel_rfl) (fun _ _ _ h => h) (Or.inl ⟨by rfl, ?_⟩) hHeld ?_
            rotate_left
            · (intro w hSw; obtain ⟨k1, ⟨k2, k5, k6⟩, k3, k4⟩ := hSw; go_simp; try with_reducible rfl)
            try simp only [Act.put, List.setIfInBounds_toArray, List.set_cons_zero, List.set_cons_succ]
            refine LstR21.tk13 (v := ?_) (by kernel_rfl) (by kernel_rfl) (by kernel_rfl) (fun _ _ _ h => h) (Or.inl ⟨by rfl, ?_⟩) hHeld ?_
            rotate_left
            · (intro w hSw; obtain ⟨k1, ⟨k2, k5, k6⟩, k3, k4⟩ := hSw; go_simp; try with_reducible rfl)
            try simp only [Act.put, List.setIfInBounds_toArray, List.set_cons_zero, List.set_cons_succ]
            refine LstR21.tk14 (v := ?_) (by kernel_rfl) (by kernel_rfl) (by kernel_rfl) (fun _ _ _ h => h) (Or.inl ⟨by rfl, ?_⟩) hHeld ?_
            rotate_left
            · (intro w hSw; obtain ⟨k1, ⟨k2, k5, k6⟩, k3, k4⟩ := hSw; go_simp; try with_reducible rfl)
            try simp only [Act.put, List.setIfInBounds_toArray, List.set_cons_zero, List.set_cons_succ]
            refine LstR21.tk15 (v := ?_) (by kernel_rfl) (by kernel_rfl) (by kernel_rfl) (fun _ _ _ h => h) (Or.inl ⟨by rfl, ?_⟩) hHeld ?_
            rotate_left
            · (intro w hSw; obtain ⟨k1, ⟨k2, k5, k6⟩, k3, k4⟩ := hSw; go_simp; try with_reducible rfl)
            try simp only [Act.put, List.setIfInBounds_toArray, List.set_cons_zero, List.set_cons_succ]
            refine LstR21.ac3_11 (by kernel_rfl) (fun K hK => ?_) (fun K hK => ?_)
            · go_simp
              refine hK.out _ _ hHeld (fun hHeld => ?_)
              clear hK K
              try simp only [Act.put, List.setIfInBounds_toArray, List.set_cons_zero, List.set_cons_succ]
              refine LstR21.ac11 (by kernel_rfl) (fun K hK => ?_)
              go_simp
              (go_at_call 48; refine (HC y.ve hye _).out.mono ?_; rintro e w2 ⟨rfl, hb⟩; have HR2 := Aside0.mk (HRD.out.below (HSZ _ _ _ _ _ HRD.out) hb); obtain ⟨d0, d1, d2, d3, d5, t5, t7, t8, hg⟩ := HR2.out.cells; obtain ⟨e0, e1⟩ := HEL _ _ HR2.out; have hg0 := hg 0; clear hb hg)
              try go_wp2_with fail
              refine hK.out _ _ ⟨d5, ⟨t5, t7, t8⟩, e0, e1⟩ (fun hHeld => ?_)
              clear hK K
              try simp only [Act.put, List.setIfInBounds_toArray, List.set_cons_zero, List.set_cons_succ]
              refine LstR21.tk16 (v := ?_) (by kernel_rfl) (by kernel_rfl) (by kernel_rfl) (fun _ _ _ h => h) (Or.inl ⟨by rfl, ?_⟩) hHeld ?_
              rotate_left
              · (intro w hSw; obtain ⟨k1, ⟨k2, k5, k6⟩, k3, k4⟩ := hSw; go_simp; try with_reducible rfl)
              try simp only [Act.put, List.setIfInBounds_toArray, List.set_cons_zero, List.set_cons_succ]
              refine LstR21.tk17 (v := ?_) (by kernel_rfl) (by kernel_rfl) (by kernel_rfl) (fun _ _ _ h => h) (Or.inl ⟨by rfl, ?_⟩) hHeld ?_
              rotate_left
              · (intro w hSw; obtain ⟨k1, ⟨k2, k5, k6⟩, k3, k4⟩ := hSw; go_simp; try with_reducible rfl)
              try simp only [Act.put, List.setIfInBounds_toArray, List.set_cons_zero, List.set_cons_succ]
              refine LstR21.tk18 (v := ?_) (by kernel_rfl) (by kernel_rfl) (by kernel_rfl) (fun _ _ _ h => h) (Or.inl ⟨by rfl, ?_⟩) hHeld ?_
              rotate_left
              · (intro w hSw; obtain ⟨k1, ⟨k2, k5, k6⟩, k3, k4⟩ := hSw; go_simp; try with_reducible rfl)
              try simp only [Act.put, List.setIfInBounds_toArray, List.set_cons_zero, List.set_cons_succ]
              refine LstR21.tk19 (v := ?_) (by kernel_rfl) (by kernel_rfl) (by kernel_rfl) (fun _ _ _ h => h) (Or.inl ⟨by rfl, ?_⟩) hHeld ?_
              rotate_left
              · (intro w hSw; obtain ⟨k1, ⟨k2, k5, k6⟩, k3, k4⟩ := hSw; go_simp; try with_reducible rfl)
              try simp only [Act.put, List.setIfInBounds_toArray, List.set_cons_zero, List.set_cons_succ]
              have HPT : ∀ u, u = Value.int .i64 (((ap6 + Lib.runeCount y.ve * lv : Nat)) : Int) → Aside0 (RS B w0 q qs gs its lev y (ofL (Lib.repeatL [32] (Lib.runeCount y.ve))) ⟨#[]⟩ (ap6 + Lib.runeCount y.ve * lv) (.slice (some ad) gs.length c) (w2.setCell ⟨q, 0, none⟩ u)) := fun u hu => Aside0.mk (HR2.out.put 0 u (by rw [hu]; rfl))
              refine LstR21.ac20 (by kernel_rfl) (fun K hK => ?_)
              go_simp
              have HF := HPT (.int .i64 (IntKind.i64.wrap ((ap6 : Int) + (Lib.runeCount y.ve : Int) * (lv : Int)))) (congrArg (Value.int .i64) (show IntKind.i64.wrap ((ap6 : Int) + (Lib.runeCount y.ve : Int) * (lv : Int)) = ((ap6 + Lib.runeCount y.ve * lv : Nat) : Int) from (by rw [← Int.natCast_mul, ← Int.natCast_add]; exact wrapN _ (by omega))))
              have hS := HF.out.cells
              have hE := HEL _ _ HF.out
              refine hK.out _ _ ⟨hS.2.2.2.2.1, ⟨hS.2.2.2.2.2.1, hS.2.2.2.2.2.2.1, hS.2.2.2.2.2.2.2.1⟩, hE.1, hE.2⟩ (fun hHeld => ?_)
              clear hK K
              refine wpAnyH_done (by kernel_rfl) ?_ _
              try simp only [Act.put, List.setIfInBounds_toArray, List.set_cons_zero, List.set_cons_succ]
              go_wp2_with fail
              go_meet
              exact ⟨_, by omega, HF⟩
            · go_simp
              (go_at_call 48; refine (HC y.ve hye _).out.mono ?_; rintro e w2 ⟨rfl, hb⟩; have HR2 := Aside0.mk (HRD.out.below (HSZ _ _ _ _ _ HRD.out) hb); obtain ⟨d0, d1, d2, d3, d5, t5, t7, t8, hg⟩ := HR2.out.cells; obtain ⟨e0, e1⟩ := HEL _ _ HR2.out; have hg0 := hg 0; clear hb hg)
              try go_wp2_with fail
              refine hK.out _ _ ⟨d5, ⟨t5, t7, t8⟩, e0, e1⟩ (fun hHeld => ?_)
              clear hK K
              try simp only [Act.put, List.setIfInBounds_toArray, List.set_cons_zero, List.set_cons_succ]
              refine LstR21.tk16 (v := ?_) (by kernel_rfl) (by kernel_rfl) (by kernel_rfl) (fun _ _ _ h => h) (Or.inl ⟨by rfl, ?_⟩) hHeld ?_
              rotate_left
              · (intro w hSw; obtain ⟨k1, ⟨k2, k5, k6⟩, k3, k4⟩ := hSw; go_simp; try with_reducible rfl)
              try simp only [Act.put, List.setIfInBounds_toArray, List.set_cons_zero, List.set_cons_succ]
              refine LstR21.ac3 (by kernel_rfl) (fun K hK => ?_)
              go_simp
              refine hK.out _ _ hHeld (fun hHeld => ?_)
              clear hK K
              try simp only [Act.put, List.setIfInBounds_toArray, List.set_cons_zero, List.set_cons_succ]
              refine LstR21.tk17 (v := ?_) (by kernel_rfl) (by kernel_rfl) (by kernel_rfl) (fun _ _ _ h => h) (Or.inl ⟨by rfl, ?_⟩) hHeld ?_
              rotate_left
              · (intro w hSw; obtain ⟨k1, ⟨k2, k5, k6⟩, k3, k4⟩ := hSw; go_simp; try with_reducible rfl)
              try simp only [Act.put, List.setIfInBounds_toArray, List.set_cons_zero, List.set_cons_succ]
              refine LstR21.tk18 (v := ?_) (by kernel_rfl) (by kernel_rfl) (by kernel_rfl) (fun _ _ _ h => h) (Or.inl ⟨by rfl, ?_⟩) hHeld ?_
              rotate_left
              · (intro w hSw; obtain ⟨k1, ⟨k2, k5, k6⟩, k3, k4⟩ := hSw; go_simp; try with_reducible rfl)
              try simp only [Act.put, List.setIfInBounds_toArray, List.set_cons_zero, List.set_cons_succ]
              refine LstR21.tk19 (v := ?_) (by kernel_rfl) (by kernel_rfl) (by kernel_rfl) (fun _ _ _ h => h) (Or.inl ⟨by rfl, ?_⟩) hHeld ?_
              rotate_left
              · (intro w hSw; obtain ⟨k1, ⟨k2, k5, k6⟩, k3, k4⟩ := hSw; go_simp; try with_reducible rfl)
              try simp only [Act.put, List.setIfInBounds_toArray, List.set_cons_zero, List.set_cons_succ]
              have HPT : ∀ u, u = Value.int .i64 (((ap6 + Lib.runeCount y.ve * lv : Nat)) : Int) → Aside0 (RS B w0 q qs gs its lev y (ofL (Lib.repeatL [32] (Lib.runeCount y.ve))) ⟨#[]⟩ (ap6 + Lib.runeCount y.ve * lv) (.slice (some ad) gs.length c) (w2.setCell ⟨q, 0, none⟩ u)) := fun u hu => Aside0.mk (HR2.out.put 0 u (by rw [hu]; rfl))
              refine LstR21.ac20 (by kernel_rfl) (fun K hK => ?_)
              go_simp
              have HF := HPT (.int .i64 (IntKind.i64.wrap ((ap6 : Int) + (Lib.runeCount y.ve : Int) * (lv : Int)))) (congrArg (Value.int .i64) (show IntKind.i64.wrap ((ap6 : Int) + (Lib.runeCount y.ve : Int) * (lv : Int)) = ((ap6 + Lib.runeCount y.ve * lv : Nat) : Int) from (by rw [← Int.natCast_mul, ← Int.natCast_add]; exact wrapN _ (by omega))))
              have hS := HF.out.cells
              have hE := HEL _ _ HF.out
              refine hK.out _ _ ⟨hS.2.2.2.2.1, ⟨hS.2.2.2.2.2.1, hS.2.2.2.2.2.2.1, hS.2.2.2.2.2.2.2.1⟩, hE.1, hE.2⟩ (fun hHeld => ?_)
              clear hK K
              refine wpAnyH_done (by kernel_rfl) ?_ _
              try simp only [Act.put, List.setIfInBounds_toArray, List.set_cons_zero, List.set_cons_succ]
              go_wp2_with fail
              go_meet
              exact ⟨_, by omega, HF⟩
          case rest =>
            obtain ⟨ap8, hap8, HR8⟩ := hcut
            obtain ⟨g0, g1⟩ := HEL _ _ HR8.out
            go_upto_region 9 with fail
            go_cut [] from 70 to 84 (fun wx => ∃ ap1 : Nat, ap1 ≤ k * 1100000 + 1002000 ∧ Aside0 (RS B w0 q qs gs its lev y (ofL (Lib.repeatL [32] (Lib.runeCount y.ve))) ⟨#[]⟩ ap1 (.slice (some ad) gs.length c) wx))
            case first =>
              have HRD := Aside0.mk (HR8.out.below (HSZ _ _ _ _ _ HR8.out) (below_drew1 (Below.refl _ _)))
              obtain ⟨c0, c1, c2, c3, c5, s5, s7, s8, hf⟩ := HRD.out.cells
              obtain ⟨g0, g1⟩ := HEL _ _ HRD.out
              refine wp_region_held_drew (S := fun w' => w'.cell? ⟨q, 5, none⟩ = some (.pointer (some ⟨qs, 0, none⟩)) ∧ (w'.cell? ⟨qs, 5, none⟩ = some (.string y.ve) ∧ w'.cell? ⟨qs, 7, none⟩ = some (.string ⟨#[10]⟩) ∧ w'.cell? ⟨qs, 8, none⟩ = some (.string y.px)) ∧ w'.cell? ⟨g, 0, none⟩ = some (.int .i64 (lv : Int)) ∧ w'.cell? ⟨g, 1, none⟩ = some (.string tx)) (by kernel_rfl) ⟨c5, ⟨s5, s7, s8⟩, g0, g1⟩ (fun hHeld => ?_)
              refine LstR16.tk0 (v := ?_) (by kernel_rfl) (by kernel_rfl) (by kernel_rfl) (fun _ _ _ h => h) (Or.inl ⟨by rfl, ?_⟩) hHeld ?_
              rotate_left
              · (intro w hSw; obtain ⟨k1, ⟨k2, k5, k6⟩, k3, k4⟩ := hSw; go_simp; try with_reducible rfl)
              try simp only [Act.put, List.setIfInBounds_toArray, List.set_cons_zero, List.set_cons_succ]
              refine LstR16.tk1 (v := ?_) (by kernel_rfl) (by kernel_rfl) (by kernel_rfl) (fun _ _ _ h => h) (Or.inl ⟨by rfl, ?_⟩) hHeld ?_
              rotate_left
              · (intro w hSw; obtain ⟨k1, ⟨k2, k5, k6⟩, k3, k4⟩ := hSw; go_simp; try with_reducible rfl)
              try simp only [Act.put, List.setIfInBounds_toArray, List.set_cons_zero, List.set_cons_succ]
              refine LstR16.tk2 (v := ?_) (by kernel_rfl) (by kernel_rfl) (by kernel_rfl) (fun _ _ _ h => h) (Or.inl ⟨by rfl, ?_⟩) hHeld ?_
              rotate_left
              · (intro w hSw; obtain ⟨k1, ⟨k2, k5, k6⟩, k3, k4⟩ := hSw; go_simp; try with_reducible rfl)
              try simp only [Act.put, List.setIfInBounds_toArray, List.set_cons_zero, List.set_cons_succ]
              refine LstR16.tk4 (v := ?_) (by kernel_rfl) (by kernel_rfl) (by kernel_rfl) (fun _ _ _ h => h) (Or.inl ⟨by rfl, ?_⟩) hHeld ?_
              rotate_left
              · (intro w hSw; obtain ⟨k1, ⟨k2, k5, k6⟩, k3, k4⟩ := hSw; go_simp; try with_reducible rfl)
              try simp only [Act.put, List.setIfInBounds_toArray, List.set_cons_zero, List.set_cons_succ]
              refine LstR16.tk5 (v := ?_) (by kernel_rfl) (by kernel_rfl) (by kernel_rfl) (fun _ _ _ h => h) (Or.inl ⟨by rfl, ?_⟩) hHeld ?_
              rotate_left
              · (intro w hSw; obtain ⟨k1, ⟨k2, k5, k6⟩, k3, k4⟩ := hSw; go_simp; try with_reducible rfl)
              try simp only [Act.put, List.setIfInBounds_toArray, List.set_cons_zero, List.set_cons_succ]
              refine LstR16.tk6 (v := ?_) (by kernel_rfl) (by kernel_rfl) (by kernel_rfl) (fun _ _ _ h => h) (Or.inl ⟨by rfl, ?_⟩) hHeld ?_
              rotate_left
              · (intro w hSw; obtain ⟨k1, ⟨k2, k5, k6⟩, k3, k4⟩ := hSw; go_simp; try with_reducible rfl)
              try simp only [Act.put, List.setIfInBounds_toArray, List.set_cons_zero, List.set_cons_succ]
              refine LstR16.tk7 (v := ?_) (by kernel_rfl) (by kernel_rfl) (by kernel_rfl) (fun _ _ _ h => h) (Or.inl ⟨by rfl, ?_⟩) hHeld ?_
              rotate_left
              · (intro w hSw; obtain ⟨k1, ⟨k2, k5, k6⟩, k3, k4⟩ := hSw; go_simp; try with_reducible rfl)
              try simp only [Act.put, List.setIfInBounds_toArray, List.set_cons_zero, List.set_cons_succ]
              refine LstR16.tk8 (v := ?_) (by kernel_rfl) (by kernel_rfl) (by kernel_rfl) (fun _ _ _ h => h) (Or.inl ⟨by rfl, ?_⟩) hHeld ?_
              rotate_left
              · (intro w hSw; obtain ⟨k1, ⟨k2, k5, k6⟩, k3, k4⟩ := hSw; go_simp; try with_reducible rfl)
              try simp only [Act.put, List.setIfInBounds_toArray, List.set_cons_zero, List.set_cons_succ]
              refine LstR16.tk9 (v := ?_) (by kernel_rfl) (by kernel_rfl) (by kernel_rfl) (fun _ _ _ h => h) (Or.inl ⟨by rfl, ?_⟩) hHeld ?_
              rotate_left
              · (intro w hSw; obtain ⟨k1, ⟨k2, k5, k6⟩, k3, k4⟩ := hSw; go_simp; try with_reducible rfl)
              try simp only [Act.put, List.setIfInBounds_toArray, List.set_cons_zero, List.set_cons_succ]
              refine LstR16.tk10 (v := ?_) (by kernel_rfl) (by kernel_rfl) (by kernel_rfl) (fun _ _ _ h => h) (Or.inl ⟨by rfl, ?_⟩) hHeld ?_
              rotate_left
              · (intro w hSw; obtain ⟨k1, ⟨k2, k5, k6⟩, k3, k4⟩ := hSw; go_simp; try with_reducible rfl)
              try simp only [Act.put, List.setIfInBounds_toArray, List.set_cons_zero, List.set_cons_succ]
              refine LstR16.ac3_11 (by kernel_rfl) (fun K hK => ?_) (fun K hK => ?_)
              · go_simp
                refine hK.out _ _ hHeld (fun hHeld => ?_)
                clear hK K
                try simp only [Act.put, List.setIfInBounds_toArray, List.set_cons_zero, List.set_cons_succ]
                refine LstR16.ac11 (by kernel_rfl) (fun K hK => ?_)
                go_simp
                (go_at_call 48; refine (HC y.ve hye _).out.mono ?_; rintro e w2 ⟨rfl, hb⟩; have HR2 := Aside0.mk (HRD.out.below (HSZ _ _ _ _ _ HRD.out) hb); obtain ⟨d0, d1, d2, d3, d5, t5, t7, t8, hg⟩ := HR2.out.cells; obtain ⟨e0, e1⟩ := HEL _ _ HR2.out; have hg0 := hg 0; clear hb hg)
                try go_wp2_with fail
                refine hK.out _ _ ⟨d5, ⟨t5, t7, t8⟩, e0, e1⟩ (fun hHeld => ?_)
                clear hK K
                try simp only [Act.put, List.setIfInBounds_toArray, List.set_cons_zero, List.set_cons_succ]
                refine LstR16.tk12 (v := ?_) (by kernel_rfl) (by kernel_rfl) (by kernel_rfl) (fun _ _ _ h => h) (Or.inl ⟨by rfl, ?_⟩) hHeld ?_
                rotate_left
                · (intro w hSw; obtain ⟨k1, ⟨k2, k5, k6⟩, k3, k4⟩ := hSw; go_simp; try with_reducible rfl)
                try simp only [Act.put, List.setIfInBounds_toArray, List.set_cons_zero, List.set_cons_succ]
                refine LstR16.tk13 (v := ?_) (by kernel_rfl) (by kernel_rfl) (by kernel_rfl) (fun _ _ _ h => h) (Or.inl ⟨by rfl, ?_⟩) hHeld ?_
                rotate_left
                · (intro w hSw; obtain ⟨k1, ⟨k2, k5, k6⟩, k3, k4⟩ := hSw; go_simp; try with_reducible rfl)
                try simp only [Act.put, List.setIfInBounds_toArray, List.set_cons_zero, List.set_cons_succ]
                refine LstR16.tk14 (v := ?_) (by kernel_rfl) (by kernel_rfl) (by kernel_rfl) (fun _ _ _ h => h) (Or.inl ⟨by rfl, ?_⟩) hHeld ?_
                rotate_left
                · (intro w hSw; obtain ⟨k1, ⟨k2, k5, k6⟩, k3, k4⟩ := hSw; go_simp; try with_reducible rfl)
                try simp only [Act.put, List.setIfInBounds_toArray, List.set_cons_zero, List.set_cons_succ]
                have HPT : ∀ u, u = Value.int .i64 (((ap8 + Lib.runeCount y.ve : Nat)) : Int) → Aside0 (RS B w0 q qs gs its lev y (ofL (Lib.repeatL [32] (Lib.runeCount y.ve))) ⟨#[]⟩ (ap8 + Lib.runeCount y.ve) (.slice (some ad) gs.length c) (w2.setCell ⟨q, 0, none⟩ u)) := fun u hu => Aside0.mk (HR2.out.put 0 u (by rw [hu]; rfl))
                refine LstR16.ac15 (by kernel_rfl) (fun K hK => ?_)
                go_simp
                have HF := HPT (.int .i64 (IntKind.i64.wrap ((ap8 : Int) + ((Lib.runeCount y.ve : Nat) : Int)))) (congrArg (Value.int .i64) (show IntKind.i64.wrap ((ap8 : Int) + ((Lib.runeCount y.ve : Nat) : Int)) = ((ap8 + Lib.runeCount y.ve : Nat) : Int) by rw [IntKind.wrap_i64]; omega))
                have hS := HF.out.cells
                have hE := HEL _ _ HF.out
                refine hK.out _ _ ⟨hS.2.2.2.2.1, ⟨hS.2.2.2.2.2.1, hS.2.2.2.2.2.2.1, hS.2.2.2.2.2.2.2.1⟩, hE.1, hE.2⟩ (fun hHeld => ?_)
                clear hK K
                refine wpAnyH_done (by kernel_rfl) ?_ _
                try simp only [Act.put, List.setIfInBounds_toArray, List.set_cons_zero, List.set_cons_succ]
                go_wp2_with fail
                go_meet
                exact ⟨_, by omega, HF⟩
              · go_simp
                (go_at_call 48; refine (HC y.ve hye _).out.mono ?_; rintro e w2 ⟨rfl, hb⟩; have HR2 := Aside0.mk (HRD.out.below (HSZ _ _ _ _ _ HRD.out) hb); obtain ⟨d0, d1, d2, d3, d5, t5, t7, t8, hg⟩ := HR2.out.cells; obtain ⟨e0, e1⟩ := HEL _ _ HR2.out; have hg0 := hg 0; clear hb hg)
                try go_wp2_with fail
                refine hK.out _ _ ⟨d5, ⟨t5, t7, t8⟩, e0, e1⟩ (fun hHeld => ?_)
                clear hK K
                try simp only [Act.put, List.setIfInBounds_toArray, List.set_cons_zero, List.set_cons_succ]
                refine LstR16.ac3 (by kernel_rfl) (fun K hK => ?_)
                go_simp
                refine hK.out _ _ hHeld (fun hHeld => ?_)
                clear hK K
                try simp only [Act.put, List.setIfInBounds_toArray, List.set_cons_zero, List.set_cons_succ]
                refine LstR16.tk12 (v := ?_) (by kernel_rfl) (by kernel_rfl) (by kernel_rfl) (fun _ _ _ h => h) (Or.inl ⟨by rfl, ?_⟩) hHeld ?_
                rotate_left
                · (intro w hSw; obtain ⟨k1, ⟨k2, k5, k6⟩, k3, k4⟩ := hSw; go_simp; try with_reducible rfl)
                try simp only [Act.put, List.setIfInBounds_toArray, List.set_cons_zero, List.set_cons_succ]
                refine LstR16.tk13 (v := ?_) (by kernel_rfl) (by kernel_rfl) (by kernel_rfl) (fun _ _ _ h => h) (Or.inl ⟨by rfl, ?_⟩) hHeld ?_
                rotate_left
                · (intro w hSw; obtain ⟨k1, ⟨k2, k5, k6⟩, k3, k4⟩ := hSw; go_simp; try with_reducible rfl)
                try simp only [Act.put, List.setIfInBounds_toArray, List.set_cons_zero, List.set_cons_succ]
                refine LstR16.tk14 (v := ?_) (by kernel_rfl) (by kernel_rfl) (by kernel_rfl) (fun _ _ _ h => h) (Or.inl ⟨by rfl, ?_⟩) hHeld ?_
                rotate_left
                · (intro w hSw; obtain ⟨k1, ⟨k2, k5, k6⟩, k3, k4⟩ := hSw; go_simp; try with_reducible rfl)
                try simp only [Act.put, List.setIfInBounds_toArray, List.set_cons_zero, List.set_cons_succ]
                have HPT : ∀ u, u = Value.int .i64 (((ap8 + Lib.runeCount y.ve : Nat)) : Int) → Aside0 (RS B w0 q qs gs its lev y (ofL (Lib.repeatL [32] (Lib.runeCount y.ve))) ⟨#[]⟩ (ap8 + Lib.runeCount y.ve) (.slice (some ad) gs.length c) (w2.setCell ⟨q, 0, none⟩ u)) := fun u hu => Aside0.mk (HR2.out.put 0 u (by rw [hu]; rfl))
                refine LstR16.ac15 (by kernel_rfl) (fun K hK => ?_)
                go_simp
                have HF := HPT (.int .i64 (IntKind.i64.wrap ((ap8 : Int) + ((Lib.runeCount y.ve : Nat) : Int)))) (congrArg (Value.int .i64) (show IntKind.i64.wrap ((ap8 : Int) + ((Lib.runeCount y.ve : Nat) : Int)) = ((ap8 + Lib.runeCount y.ve : Nat) : Int) by rw [IntKind.wrap_i64]; omega))
                have hS := HF.out.cells
                have hE := HEL _ _ HF.out
                refine hK.out _ _ ⟨hS.2.2.2.2.1, ⟨hS.2.2.2.2.2.1, hS.2.2.2.2.2.2.1, hS.2.2.2.2.2.2.2.1⟩, hE.1, hE.2⟩ (fun hHeld => ?_)
                clear hK K
                refine wpAnyH_done (by kernel_rfl) ?_ _
                try simp only [Act.put, List.setIfInBounds_toArray, List.set_cons_zero, List.set_cons_succ]
                go_wp2_with fail
                go_meet
                exact ⟨_, by omega, HF⟩
            case rest =>
              obtain ⟨ap9, hap9, HR9⟩ := hcut
              obtain ⟨g0, g1⟩ := HEL _ _ HR9.out
              go_upto_region 10 with fail
              go_cut [] from 85 to 96 (fun wx => ∃ ap1 : Nat, ap1 ≤ k * 1100000 + 1003000 ∧ Aside0 (RS B w0 q qs gs its lev y (ofL (Lib.repeatL [32] (Lib.runeCount y.ve))) ⟨#[]⟩ ap1 (.slice (some ad) gs.length c) wx))
              case first =>
                have HRD := Aside0.mk (HR9.out.below (HSZ _ _ _ _ _ HR9.out) (below_drew1 (Below.refl _ _)))
                obtain ⟨c0, c1, c2, c3, c5, s5, s7, s8, hf⟩ := HRD.out.cells
                obtain ⟨g0, g1⟩ := HEL _ _ HRD.out
                refine wp_region_held_drew (S := fun w' => w'.cell? ⟨q, 5, none⟩ = some (.pointer (some ⟨qs, 0, none⟩)) ∧ (w'.cell? ⟨qs, 5, none⟩ = some (.string y.ve) ∧ w'.cell? ⟨qs, 7, none⟩ = some (.string ⟨#[10]⟩) ∧ w'.cell? ⟨qs, 8, none⟩ = some (.string y.px)) ∧ w'.cell? ⟨g, 0, none⟩ = some (.int .i64 (lv : Int)) ∧ w'.cell? ⟨g, 1, none⟩ = some (.string tx)) (by kernel_rfl) ⟨c5, ⟨s5, s7, s8⟩, g0, g1⟩ (fun hHeld => ?_)
                refine LstR13.tk0 (v := ?_) (by kernel_rfl) (by kernel_rfl) (by kernel_rfl) (fun _ _ _ h => h) (Or.inl ⟨by rfl, ?_⟩) hHeld ?_
                rotate_left
                · (intro w hSw; obtain ⟨k1, ⟨k2, k5, k6⟩, k3, k4⟩ := hSw; go_simp; try with_reducible rfl)
                try simp only [Act.put, List.setIfInBounds_toArray, List.set_cons_zero, List.set_cons_succ]
                refine LstR13.tk1 (v := ?_) (by kernel_rfl) (by kernel_rfl) (by kernel_rfl) (fun _ _ _ h => h) (Or.inl ⟨by rfl, ?_⟩) hHeld ?_
                rotate_left
                · (intro w hSw; obtain ⟨k1, ⟨k2, k5, k6⟩, k3, k4⟩ := hSw; go_simp; try with_reducible rfl)
                try simp only [Act.put, List.setIfInBounds_toArray, List.set_cons_zero, List.set_cons_succ]
                refine LstR13.tk2 (v := ?_) (by kernel_rfl) (by kernel_rfl) (by kernel_rfl) (fun _ _ _ h => h) (Or.inl ⟨by rfl, ?_⟩) hHeld ?_
                rotate_left
                · (intro w hSw; obtain ⟨k1, ⟨k2, k5, k6⟩, k3, k4⟩ := hSw; go_simp; try with_reducible rfl)
                try simp only [Act.put, List.setIfInBounds_toArray, List.set_cons_zero, List.set_cons_succ]
                refine LstR13.tk4 (v := ?_) (by kernel_rfl) (by kernel_rfl) (by kernel_rfl) (fun _ _ _ h => h) (Or.inl ⟨by rfl, ?_⟩) hHeld ?_
                rotate_left
                · (intro w hSw; obtain ⟨k1, ⟨k2, k5, k6⟩, k3, k4⟩ := hSw; go_simp; try with_reducible rfl)
                try simp only [Act.put, List.setIfInBounds_toArray, List.set_cons_zero, List.set_cons_succ]
                refine LstR13.tk5 (v := ?_) (by kernel_rfl) (by kernel_rfl) (by kernel_rfl) (fun _ _ _ h => h) (Or.inl ⟨by rfl, ?_⟩) hHeld ?_
                rotate_left
                · (intro w hSw; obtain ⟨k1, ⟨k2, k5, k6⟩, k3, k4⟩ := hSw; go_simp; try with_reducible rfl)
                try simp only [Act.put, List.setIfInBounds_toArray, List.set_cons_zero, List.set_cons_succ]
                refine LstR13.tk6 (v := ?_) (by kernel_rfl) (by kernel_rfl) (by kernel_rfl) (fun _ _ _ h => h) (Or.inl ⟨by rfl, ?_⟩) hHeld ?_
                rotate_left
                · (intro w hSw; obtain ⟨k1, ⟨k2, k5, k6⟩, k3, k4⟩ := hSw; go_simp; try with_reducible rfl)
                try simp only [Act.put, List.setIfInBounds_toArray, List.set_cons_zero, List.set_cons_succ]
                refine LstR13.tk7 (v := ?_) (by kernel_rfl) (by kernel_rfl) (by kernel_rfl) (fun _ _ _ h => h) (Or.inl ⟨by rfl, ?_⟩) hHeld ?_
                rotate_left
                · (intro w hSw; obtain ⟨k1, ⟨k2, k5, k6⟩, k3, k4⟩ := hSw; go_simp; try with_reducible rfl)
                try simp only [Act.put, List.setIfInBounds_toArray, List.set_cons_zero, List.set_cons_succ]
                refine LstR13.ac3_8 (by kernel_rfl) (fun K hK => ?_) (fun K hK => ?_)
                · go_simp
                  refine hK.out _ _ hHeld (fun hHeld => ?_)
                  clear hK K
                  try simp only [Act.put, List.setIfInBounds_toArray, List.set_cons_zero, List.set_cons_succ]
                  refine LstR13.ac8 (by kernel_rfl) (fun K hK => ?_)
                  go_simp
                  (go_at_call 48; refine (HC tx htx _).out.mono ?_; rintro e w2 ⟨rfl, hb⟩; have HR2 := Aside0.mk (HRD.out.below (HSZ _ _ _ _ _ HRD.out) hb); obtain ⟨d0, d1, d2, d3, d5, t5, t7, t8, hg⟩ := HR2.out.cells; obtain ⟨e0, e1⟩ := HEL _ _ HR2.out; have hg0 := hg 0; clear hb hg)
                  try go_wp2_with fail
                  refine hK.out _ _ ⟨d5, ⟨t5, t7, t8⟩, e0, e1⟩ (fun hHeld => ?_)
                  clear hK K
                  try simp only [Act.put, List.setIfInBounds_toArray, List.set_cons_zero, List.set_cons_succ]
                  refine LstR13.tk9 (v := ?_) (by kernel_rfl) (by kernel_rfl) (by kernel_rfl) (fun _ _ _ h => h) (Or.inl ⟨by rfl, ?_⟩) hHeld ?_
                  rotate_left
                  · (intro w hSw; obtain ⟨k1, ⟨k2, k5, k6⟩, k3, k4⟩ := hSw; go_simp; try with_reducible rfl)
                  try simp only [Act.put, List.setIfInBounds_toArray, List.set_cons_zero, List.set_cons_succ]
                  refine LstR13.tk10 (v := ?_) (by kernel_rfl) (by kernel_rfl) (by kernel_rfl) (fun _ _ _ h => h) (Or.inl ⟨by rfl, ?_⟩) hHeld ?_
                  rotate_left
                  · (intro w hSw; obtain ⟨k1, ⟨k2, k5, k6⟩, k3, k4⟩ := hSw; go_simp; try with_reducible rfl)
                  try simp only [Act.put, List.setIfInBounds_toArray, List.set_cons_zero, List.set_cons_succ]
                  refine LstR13.tk11 (v := ?_) (by kernel_rfl) (by kernel_rfl) (by kernel_rfl) (fun _ _ _ h => h) (Or.inl ⟨by rfl, ?_⟩) hHeld ?_
                  rotate_left
                  · (intro w hSw; obtain ⟨k1, ⟨k2, k5, k6⟩, k3, k4⟩ := hSw; go_simp; try with_reducible rfl)
                  try simp only [Act.put, List.setIfInBounds_toArray, List.set_cons_zero, List.set_cons_succ]
                  have HPT : ∀ u, u = Value.int .i64 (((ap9 + Lib.runeCount tx : Nat)) : Int) → Aside0 (RS B w0 q qs gs its lev y (ofL (Lib.repeatL [32] (Lib.runeCount y.ve))) ⟨#[]⟩ (ap9 + Lib.runeCount tx) (.slice (some ad) gs.length c) (w2.setCell ⟨q, 0, none⟩ u)) := fun u hu => Aside0.mk (HR2.out.put 0 u (by rw [hu]; rfl))
                  refine LstR13.ac12 (by kernel_rfl) (fun K hK => ?_)
                  go_simp
                  have HF := HPT (.int .i64 (IntKind.i64.wrap ((ap9 : Int) + ((Lib.runeCount tx : Nat) : Int)))) (congrArg (Value.int .i64) (show IntKind.i64.wrap ((ap9 : Int) + ((Lib.runeCount tx : Nat) : Int)) = ((ap9 + Lib.runeCount tx : Nat) : Int) by rw [IntKind.wrap_i64]; omega))
                  have hS := HF.out.cells
                  have hE := HEL _ _ HF.out
                  refine hK.out _ _ ⟨hS.2.2.2.2.1, ⟨hS.2.2.2.2.2.1, hS.2.2.2.2.2.2.1, hS.2.2.2.2.2.2.2.1⟩, hE.1, hE.2⟩ (fun hHeld => ?_)
                  clear hK K
                  refine wpAnyH_done (by kernel_rfl) ?_ _
                  try simp only [Act.put, List.setIfInBounds_toArray, List.set_cons_zero, List.set_cons_succ]
                  go_wp2_with fail
                  go_meet
                  exact ⟨_, by omega, HF⟩
                · go_simp
                  (go_at_call 48; refine (HC tx htx _).out.mono ?_; rintro e w2 ⟨rfl, hb⟩; have HR2 := Aside0.mk (HRD.out.below (HSZ _ _ _ _ _ HRD.out) hb); obtain ⟨d0, d1, d2, d3, d5, t5, t7, t8, hg⟩ := HR2.out.cells; obtain ⟨e0, e1⟩ := HEL _ _ HR2.out; have hg0 := hg 0; clear hb hg)
                  try go_wp2_with fail
                  refine hK.out _ _ ⟨d5, ⟨t5, t7, t8⟩, e0, e1⟩ (fun hHeld => ?_)
                  clear hK K
                  try simp only [Act.put, List.setIfInBounds_toArray, List.set_cons_zero, List.set_cons_succ]
                  refine LstR13.ac3 (by kernel_rfl) (fun K hK => ?_)
                  go_simp
                  refine hK.out _ _ hHeld (fun hHeld => ?_)
                  clear hK K
                  try simp only [Act.put, List.setIfInBounds_toArray, List.set_cons_zero, List.set_cons_succ]
                  refine LstR13.tk9 (v := ?_) (by kernel_rfl) (by kernel_rfl) (by kernel_rfl) (fun _ _ _ h => h) (Or.inl ⟨by rfl, ?_⟩) hHeld ?_
                  rotate_left
                  · (intro w hSw; obtain ⟨k1, ⟨k2, k5, k6⟩, k3, k4⟩ := hSw; go_simp; try with_reducible rfl)
                  try simp only [Act.put, List.setIfInBounds_toArray, List.set_cons_zero, List.set_cons_succ]
                  refine LstR13.tk10 (v := ?_) (by kernel_rfl) (by kernel_rfl) (by kernel_rfl) (fun _ _ _ h => h) (Or.inl ⟨by rfl, ?_⟩) hHeld ?_
                  rotate_left
                  · (intro w hSw; obtain ⟨k1, ⟨k2, k5, k6⟩, k3, k4⟩ := hSw; go_simp; try with_reducible rfl)
                  try simp only [Act.put, List.setIfInBounds_toArray, List.set_cons_zero, List.set_cons_succ]
                  refine LstR13.tk11 (v := ?_) (by kernel_rfl) (by kernel_rfl) (by kernel_rfl) (fun _ _ _ h => h) (Or.inl ⟨by rfl, ?_⟩) hHeld ?_
                  rotate_left
                  · (intro w hSw; obtain ⟨k1, ⟨k2, k5, k6⟩, k3, k4⟩ := hSw; go_simp; try with_reducible rfl)
                  try simp only [Act.put, List.setIfInBounds_toArray, List.set_cons_zero, List.set_cons_succ]
                  have HPT : ∀ u, u = Value.int .i64 (((ap9 + Lib.runeCount tx : Nat)) : Int) → Aside0 (RS B w0 q qs gs its lev y (ofL (Lib.repeatL [32] (Lib.runeCount y.ve))) ⟨#[]⟩ (ap9 + Lib.runeCount tx) (.slice (some ad) gs.length c) (w2.setCell ⟨q, 0, none⟩ u)) := fun u hu => Aside0.mk (HR2.out.put 0 u (by rw [hu]; rfl))
                  refine LstR13.ac12 (by kernel_rfl) (fun K hK => ?_)
                  go_simp
                  have HF := HPT (.int .i64 (IntKind.i64.wrap ((ap9 : Int) + ((Lib.runeCount tx : Nat) : Int)))) (congrArg (Value.int .i64) (show IntKind.i64.wrap ((ap9 : Int) + ((Lib.runeCount tx : Nat) : Int)) = ((ap9 + Lib.runeCount tx : Nat) : Int) by rw [IntKind.wrap_i64]; omega))
                  have hS := HF.out.cells
                  have hE := HEL _ _ HF.out
                  refine hK.out _ _ ⟨hS.2.2.2.2.1, ⟨hS.2.2.2.2.2.1, hS.2.2.2.2.2.2.1, hS.2.2.2.2.2.2.2.1⟩, hE.1, hE.2⟩ (fun hHeld => ?_)
                  clear hK K
                  refine wpAnyH_done (by kernel_rfl) ?_ _
                  try simp only [Act.put, List.setIfInBounds_toArray, List.set_cons_zero, List.set_cons_succ]
                  go_wp2_with fail
                  go_meet
                  exact ⟨_, by omega, HF⟩
              case rest =>
                obtain ⟨ap10, hap10, HR10⟩ := hcut
                obtain ⟨g0, g1⟩ := HEL _ _ HR10.out
                go_upto_region 11 with fail
                have HRD := Aside0.mk (HR10.out.below (HSZ _ _ _ _ _ HR10.out) (below_drew1 (Below.refl _ _)))
                obtain ⟨c0, c1, c2, c3, c5, s5, s7, s8, hf⟩ := HRD.out.cells
                obtain ⟨g0, g1⟩ := HEL _ _ HRD.out
                refine wp_region_held_drew (S := fun w' => w'.cell? ⟨q, 5, none⟩ = some (.pointer (some ⟨qs, 0, none⟩)) ∧ (w'.cell? ⟨qs, 5, none⟩ = some (.string y.ve) ∧ w'.cell? ⟨qs, 7, none⟩ = some (.string ⟨#[10]⟩) ∧ w'.cell? ⟨qs, 8, none⟩ = some (.string y.px)) ∧ w'.cell? ⟨g, 0, none⟩ = some (.int .i64 (lv : Int)) ∧ w'.cell? ⟨g, 1, none⟩ = some (.string tx)) (by kernel_rfl) ⟨c5, ⟨s5, s7, s8⟩, g0, g1⟩ (fun hHeld => ?_)
                refine LstR16.tk0 (v := ?_) (by kernel_rfl) (by kernel_rfl) (by kernel_rfl) (fun _ _ _ h => h) (Or.inl ⟨by rfl, ?_⟩) hHeld ?_
                rotate_left
                · (intro w hSw; obtain ⟨k1, ⟨k2, k5, k6⟩, k3, k4⟩ := hSw; go_simp; try with_reducible rfl)
                try simp only [Act.put, List.setIfInBounds_toArray, List.set_cons_zero, List.set_cons_succ]
                refine LstR16.tk1 (v := ?_) (by kernel_rfl) (by kernel_rfl) (by kernel_rfl) (fun _ _ _ h => h) (Or.inl ⟨by rfl, ?_⟩) hHeld ?_
                rotate_left
                · (intro w hSw; obtain ⟨k1, ⟨k2, k5, k6⟩, k3, k4⟩ := hSw; go_simp; try with_reducible rfl)
                try simp only [Act.put, List.setIfInBounds_toArray, List.set_cons_zero, List.set_cons_succ]
                refine LstR16.tk2 (v := ?_) (by kernel_rfl) (by kernel_rfl) (by kernel_rfl) (fun _ _ _ h => h) (Or.inl ⟨by rfl, ?_⟩) hHeld ?_
                rotate_left
                · (intro w hSw; obtain ⟨k1, ⟨k2, k5, k6⟩, k3, k4⟩ := hSw; go_simp; try with_reducible rfl)
                try simp only [Act.put, List.setIfInBounds_toArray, List.set_cons_zero, List.set_cons_succ]
                refine LstR16.tk4 (v := ?_) (by kernel_rfl) (by kernel_rfl) (by kernel_rfl) (fun _ _ _ h => h) (Or.inl ⟨by rfl, ?_⟩) hHeld ?_
                rotate_left
                · (intro w hSw; obtain ⟨k1, ⟨k2, k5, k6⟩, k3, k4⟩ := hSw; go_simp; try with_reducible rfl)
                try simp only [Act.put, List.setIfInBounds_toArray, List.set_cons_zero, List.set_cons_succ]
                refine LstR16.tk5 (v := ?_) (by kernel_rfl) (by kernel_rfl) (by kernel_rfl) (fun _ _ _ h => h) (Or.inl ⟨by rfl, ?_⟩) hHeld ?_
                rotate_left
                · (intro w hSw; obtain ⟨k1, ⟨k2, k5, k6⟩, k3, k4⟩ := hSw; go_simp; try with_reducible rfl)
                try simp only [Act.put, List.setIfInBounds_toArray, List.set_cons_zero, List.set_cons_succ]
                refine LstR16.tk6 (v := ?_) (by kernel_rfl) (by kernel_rfl) (by kernel_rfl) (fun _ _ _ h => h) (Or.inl ⟨by rfl, ?_⟩) hHeld ?_
                rotate_left
                · (intro w hSw; obtain ⟨k1, ⟨k2, k5, k6⟩, k3, k4⟩ := hSw; go_simp; try with_reducible rfl)
                try simp only [Act.put, List.setIfInBounds_toArray, List.set_cons_zero, List.set_cons_succ]
                refine LstR16.tk7 (v := ?_) (by kernel_rfl) (by kernel_rfl) (by kernel_rfl) (fun _ _ _ h => h) (Or.inl ⟨by rfl, ?_⟩) hHeld ?_
                rotate_left
                · (intro w hSw; obtain ⟨k1, ⟨k2, k5, k6⟩, k3, k4⟩ := hSw; go_simp; try with_reducible rfl)
                try simp only [Act.put, List.setIfInBounds_toArray, List.set_cons_zero, List.set_cons_succ]
                refine LstR16.tk8 (v := ?_) (by kernel_rfl) (by kernel_rfl) (by kernel_rfl) (fun _ _ _ h => h) (Or.inl ⟨by rfl, ?_⟩) hHeld ?_
                rotate_left
                · (intro w hSw; obtain ⟨k1, ⟨k2, k5, k6⟩, k3, k4⟩ := hSw; go_simp; try with_reducible rfl)
                try simp only [Act.put, List.setIfInBounds_toArray, List.set_cons_zero, List.set_cons_succ]
                refine LstR16.tk9 (v := ?_) (by kernel_rfl) (by kernel_rfl) (by kernel_rfl) (fun _ _ _ h => h) (Or.inl ⟨by rfl, ?_⟩) hHeld ?_
                rotate_left
                · (intro w hSw; obtain ⟨k1, ⟨k2, k5, k6⟩, k3, k4⟩ := hSw; go_simp; try with_reducible rfl)
                try simp only [Act.put, List.setIfInBounds_toArray, List.set_cons_zero, List.set_cons_succ]
                refine LstR16.tk10 (v := ?_) (by kernel_rfl) (by kernel_rfl) (by kernel_rfl) (fun _ _ _ h => h) (Or.inl ⟨by rfl, ?_⟩) hHeld ?_
                rotate_left
                · (intro w hSw; obtain ⟨k1, ⟨k2, k5, k6⟩, k3, k4⟩ := hSw; go_simp; try with_reducible rfl)
                try simp only [Act.put, List.setIfInBounds_toArray, List.set_cons_zero, List.set_cons_succ]
                refine LstR16.ac3_11 (by kernel_rfl) (fun K hK => ?_) (fun K hK => ?_)
                · go_simp
                  refine hK.out _ _ hHeld (fun hHeld => ?_)
                  clear hK K
                  try simp only [Act.put, List.setIfInBounds_toArray, List.set_cons_zero, List.set_cons_succ]
                  refine LstR16.ac11 (by kernel_rfl) (fun K hK => ?_)
                  go_simp
                  (go_at_call 48; refine (HCN _).out.mono ?_; rintro e w2 ⟨rfl, hb⟩; have HR2 := Aside0.mk (HRD.out.below (HSZ _ _ _ _ _ HRD.out) hb); obtain ⟨d0, d1, d2, d3, d5, t5, t7, t8, hg⟩ := HR2.out.cells; obtain ⟨e0, e1⟩ := HEL _ _ HR2.out; have hg0 := hg 0; clear hb hg)
                  try go_wp2_with fail
                  refine hK.out _ _ ⟨d5, ⟨t5, t7, t8⟩, e0, e1⟩ (fun hHeld => ?_)
                  clear hK K
                  try simp only [Act.put, List.setIfInBounds_toArray, List.set_cons_zero, List.set_cons_succ]
                  refine LstR16.tk12 (v := ?_) (by kernel_rfl) (by kernel_rfl) (by kernel_rfl) (fun _ _ _ h => h) (Or.inl ⟨by rfl, ?_⟩) hHeld ?_
                  rotate_left
                  · (intro w hSw; obtain ⟨k1, ⟨k2, k5, k6⟩, k3, k4⟩ := hSw; go_simp; try with_reducible rfl)
                  try simp only [Act.put, List.setIfInBounds_toArray, List.set_cons_zero, List.set_cons_succ]
                  refine LstR16.tk13 (v := ?_) (by kernel_rfl) (by kernel_rfl) (by kernel_rfl) (fun _ _ _ h => h) (Or.inl ⟨by rfl, ?_⟩) hHeld ?_
                  rotate_left
                  · (intro w hSw; obtain ⟨k1, ⟨k2, k5, k6⟩, k3, k4⟩ := hSw; go_simp; try with_reducible rfl)
                  try simp only [Act.put, List.setIfInBounds_toArray, List.set_cons_zero, List.set_cons_succ]
                  refine LstR16.tk14 (v := ?_) (by kernel_rfl) (by kernel_rfl) (by kernel_rfl) (fun _ _ _ h => h) (Or.inl ⟨by rfl, ?_⟩) hHeld ?_
                  rotate_left
                  · (intro w hSw; obtain ⟨k1, ⟨k2, k5, k6⟩, k3, k4⟩ := hSw; go_simp; try with_reducible rfl)
                  try simp only [Act.put, List.setIfInBounds_toArray, List.set_cons_zero, List.set_cons_succ]
                  have HPT : ∀ u, u = Value.int .i64 (((ap10 + rn : Nat)) : Int) → Aside0 (RS B w0 q qs gs its lev y (ofL (Lib.repeatL [32] (Lib.runeCount y.ve))) ⟨#[]⟩ (ap10 + rn) (.slice (some ad) gs.length c) (w2.setCell ⟨q, 0, none⟩ u)) := fun u hu => Aside0.mk (HR2.out.put 0 u (by rw [hu]; rfl))
                  refine LstR16.ac15 (by kernel_rfl) (fun K hK => ?_)
                  go_simp
                  have HF := HPT (.int .i64 (IntKind.i64.wrap ((ap10 : Int) + ((rn : Nat) : Int)))) (congrArg (Value.int .i64) (show IntKind.i64.wrap ((ap10 : Int) + ((rn : Nat) : Int)) = ((ap10 + rn : Nat) : Int) by rw [IntKind.wrap_i64]; omega))
                  have hS := HF.out.cells
                  have hE := HEL _ _ HF.out
                  refine hK.out _ _ ⟨hS.2.2.2.2.1, ⟨hS.2.2.2.2.2.1, hS.2.2.2.2.2.2.1, hS.2.2.2.2.2.2.2.1⟩, hE.1, hE.2⟩ (fun hHeld => ?_)
                  clear hK K
                  refine wpAnyH_done (by kernel_rfl) ?_ _
                  try simp only [Act.put, List.setIfInBounds_toArray, List.set_cons_zero, List.set_cons_succ]
                  go_wp2
                  go_roundw
                  case rel => exact ⟨k + 1, (ap10 + rn), by go_num, by omega, by omega, by first | exact HF | exact HPT _ (congrArg (Value.int .i64) (by push_cast; rfl)) | exact HPT _ (congrArg (Value.int .i64) (by push_cast; omega))⟩
                  case measure => simp [intOf]; omega
                · go_simp
                  (go_at_call 48; refine (HCN _).out.mono ?_; rintro e w2 ⟨rfl, hb⟩; have HR2 := Aside0.mk (HRD.out.below (HSZ _ _ _ _ _ HRD.out) hb); obtain ⟨d0, d1, d2, d3, d5, t5, t7, t8, hg⟩ := HR2.out.cells; obtain ⟨e0, e1⟩ := HEL _ _ HR2.out; have hg0 := hg 0; clear hb hg)
                  try go_wp2_with fail
                  refine hK.out _ _ ⟨d5, ⟨t5, t7, t8⟩, e0, e1⟩ (fun hHeld => ?_)
                  clear hK K
                  try simp only [Act.put, List.setIfInBounds_toArray, List.set_cons_zero, List.set_cons_succ]
                  refine LstR16.ac3 (by kernel_rfl) (fun K hK => ?_)
                  go_simp
                  refine hK.out _ _ hHeld (fun hHeld => ?_)
                  clear hK K
                  try simp only [Act.put, List.setIfInBounds_toArray, List.set_cons_zero, List.set_cons_succ]
                  refine LstR16.tk12 (v := ?_) (by kernel_rfl) (by kernel_rfl) (by kernel_rfl) (fun _ _ _ h => h) (Or.inl ⟨by rfl, ?_⟩) hHeld ?_
                  rotate_left
                  · (intro w hSw; obtain ⟨k1, ⟨k2, k5, k6⟩, k3, k4⟩ := hSw; go_simp; try with_reducible rfl)
                  try simp only [Act.put, List.setIfInBounds_toArray, List.set_cons_zero, List.set_cons_succ]
                  refine LstR16.tk13 (v := ?_) (by kernel_rfl) (by kernel_rfl) (by kernel_rfl) (fun _ _ _ h => h) (Or.inl ⟨by rfl, ?_⟩) hHeld ?_
                  rotate_left
                  · (intro w hSw; obtain ⟨k1, ⟨k2, k5, k6⟩, k3, k4⟩ := hSw; go_simp; try with_reducible rfl)
                  try simp only [Act.put, List.setIfInBounds_toArray, List.set_cons_zero, List.set_cons_succ]
                  refine LstR16.tk14 (v := ?_) (by kernel_rfl) (by kernel_rfl) (by kernel_rfl) (fun _ _ _ h => h) (Or.inl ⟨by rfl, ?_⟩) hHeld ?_
                  rotate_left
                  · (intro w hSw; obtain ⟨k1, ⟨k2, k5, k6⟩, k3, k4⟩ := hSw; go_simp; try with_reducible rfl)
                  try simp only [Act.put, List.setIfInBounds_toArray, List.set_cons_zero, List.set_cons_succ]
                  have HPT : ∀ u, u = Value.int .i64 (((ap10 + rn : Nat)) : Int) → Aside0 (RS B w0 q qs gs its lev y (ofL (Lib.repeatL [32] (Lib.runeCount y.ve))) ⟨#[]⟩ (ap10 + rn) (.slice (some ad) gs.length c) (w2.setCell ⟨q, 0, none⟩ u)) := fun u hu => Aside0.mk (HR2.out.put 0 u (by rw [hu]; rfl))
                  refine LstR16.ac15 (by kernel_rfl) (fun K hK => ?_)
                  go_simp
                  have HF := HPT (.int .i64 (IntKind.i64.wrap ((ap10 : Int) + ((rn : Nat) : Int)))) (congrArg (Value.int .i64) (show IntKind.i64.wrap ((ap10 : Int) + ((rn : Nat) : Int)) = ((ap10 + rn : Nat) : Int) by rw [IntKind.wrap_i64]; omega))
                  have hS := HF.out.cells
                  have hE := HEL _ _ HF.out
                  refine hK.out _ _ ⟨hS.2.2.2.2.1, ⟨hS.2.2.2.2.2.1, hS.2.2.2.2.2.2.1, hS.2.2.2.2.2.2.2.1⟩, hE.1, hE.2⟩ (fun hHeld => ?_)
                  clear hK K
                  refine wpAnyH_done (by kernel_rfl) ?_ _
                  try simp only [Act.put, List.setIfInBounds_toArray, List.set_cons_zero, List.set_cons_succ]
                  go_wp2
                  go_roundw
                  case rel => exact ⟨k + 1, (ap10 + rn), by go_num, by omega, by omega, by first | exact HF | exact HPT _ (congrArg (Value.int .i64) (by push_cast; rfl)) | exact HPT _ (congrArg (Value.int .i64) (by push_cast; omega))⟩
                  case measure => simp [intOf]; omega
    · obtain rfl : k = its.length := by omega
      have hdl : decide (((its.length : Nat) : Int) < (gs.length : Int)) = false := decide_eq_false (by have := HGL.out; omega)
      have hltg : ¬ its.length < gs.length := by have := HGL.out; omega
      obtain ⟨c0, c1, c2, c3, c5, s5, s7, s8, hf⟩ := HR.out.cells
      have hf2 := hf 2
      have HF := Aside0.mk (HR.out.put (vs1 := (ofL (Lib.repeatL [32] (Lib.runeCount y.ve)))) (cl1 := dcl) (ap1 := ap) 2 (.string dcl) rfl)
      go_wp2
      go_end0
      exact ⟨_, rfl, qs, ap, by omega, HF.out⟩
end Go.Proofs.YtphnnbbgcnilgaaDoor.LstJ
