/-
  Proved: what Render of a list writer returns. Conditions: as told.
-/
import Derived.Test.YtphnnbbgcnilgaaDoorLstC
import Derived.Deep.RegionHeld3
import Derived.Test.YtphnnbbgcnilgaaDoorLstI
namespace Go.Proofs.YtphnnbbgcnilgaaDoor.LstR41
open Go Go.RowKit
set_option linter.unusedVariables false
section
variable {P : Program} {md : Region.Mode} {o0 o1 o2 o3 o4 o5 o6 o7 o8 o9 o10 o11 o12 o13 o14 o15 o16 o17 o18 o19 o20 o21 o22 o23 o24 o25 o26 o27 o28 o29 o30 o31 o32 o33 o34 o35 o36 o37 o38 o39 o40 : Oper} {Q : Exit → Act → World → Prop} {S : World → Prop} {fuel : Nat} {listed : Array Bool} {a : Act} {w : World} {v : Value}
theorem tk0 (hs : Region.noSelect #[o0, o1, o2, o3, o4, o5, o6, o7, o8, o9, o10, o11, o12, o13, o14, o15, o16, o17, o18, o19, o20, o21, o22, o23, o24, o25, o26, o27, o28, o29, o30, o31, o32, o33, o34, o35, o36, o37, o38, o39, o40] = true) (hf : Region.free md #[o0, o1, o2, o3, o4, o5, o6, o7, o8, o9, o10, o11, o12, o13, o14, o15, o16, o17, o18, o19, o20, o21, o22, o23, o24, o25, o26, o27, o28, o29, o30, o31, o32, o33, o34, o35, o36, o37, o38, o39, o40] listed 0 = true) (hr : (Region.ready md #[o0, o1, o2, o3, o4, o5, o6, o7, o8, o9, o10, o11, o12, o13, o14, o15, o16, o17, o18, o19, o20, o21, o22, o23, o24, o25, o26, o27, o28, o29, o30, o31, o32, o33, o34, o35, o36, o37, o38, o39, o40] listed).contains 0 = true) (hQ : ∀ c a w, Q (.panic c) (a.put o0.dst v) w → Q (.panic c) a w) (hy : YieldsIf P #[o0, o1, o2, o3, o4, o5, o6, o7, o8, o9, o10, o11, o12, o13, o14, o15, o16, o17, o18, o19, o20, o21, o22, o23, o24, o25, o26, o27, o28, o29, o30, o31, o32, o33, o34, o35, o36, o37, o38, o39, o40] S o0 v a) (hS : S w) (h : wpAnyH P md #[o0, o1, o2, o3, o4, o5, o6, o7, o8, o9, o10, o11, o12, o13, o14, o15, o16, o17, o18, o19, o20, o21, o22, o23, o24, o25, o26, o27, o28, o29, o30, o31, o32, o33, o34, o35, o36, o37, o38, o39, o40] Q S fuel (listed.setIfInBounds 0 true) (a.put o0.dst v) w) : wpAnyH P md #[o0, o1, o2, o3, o4, o5, o6, o7, o8, o9, o10, o11, o12, o13, o14, o15, o16, o17, o18, o19, o20, o21, o22, o23, o24, o25, o26, o27, o28, o29, o30, o31, o32, o33, o34, o35, o36, o37, o38, o39, o40] Q S (fuel + 1) listed a w := wpAnyH_take (i := 0) (oi := o0) rfl hs hf hr hQ hy hS h
theorem tk1 (hs : Region.noSelect #[o0, o1, o2, o3, o4, o5, o6, o7, o8, o9, o10, o11, o12, o13, o14, o15, o16, o17, o18, o19, o20, o21, o22, o23, o24, o25, o26, o27, o28, o29, o30, o31, o32, o33, o34, o35, o36, o37, o38, o39, o40] = true) (hf : Region.free md #[o0, o1, o2, o3, o4, o5, o6, o7, o8, o9, o10, o11, o12, o13, o14, o15, o16, o17, o18, o19, o20, o21, o22, o23, o24, o25, o26, o27, o28, o29, o30, o31, o32, o33, o34, o35, o36, o37, o38, o39, o40] listed 1 = true) (hr : (Region.ready md #[o0, o1, o2, o3, o4, o5, o6, o7, o8, o9, o10, o11, o12, o13, o14, o15, o16, o17, o18, o19, o20, o21, o22, o23, o24, o25, o26, o27, o28, o29, o30, o31, o32, o33, o34, o35, o36, o37, o38, o39, o40] listed).contains 1 = true) (hQ : ∀ c a w, Q (.panic c) (a.put o1.dst v) w → Q (.panic c) a w) (hy : YieldsIf P #[o0, o1, o2, o3, o4, o5, o6, o7, o8, o9, o10, o11, o12, o13, o14, o15, o16, o17, o18, o19, o20, o21, o22, o23, o24, o25, o26, o27, o28, o29, o30, o31, o32, o33, o34, o35, o36, o37, o38, o39, o40] S o1 v a) (hS : S w) (h : wpAnyH P md #[o0, o1, o2, o3, o4, o5, o6, o7, o8, o9, o10, o11, o12, o13, o14, o15, o16, o17, o18, o19, o20, o21, o22, o23, o24, o25, o26, o27, o28, o29, o30, o31, o32, o33, o34, o35, o36, o37, o38, o39, o40] Q S fuel (listed.setIfInBounds 1 true) (a.put o1.dst v) w) : wpAnyH P md #[o0, o1, o2, o3, o4, o5, o6, o7, o8, o9, o10, o11, o12, o13, o14, o15, o16, o17, o18, o19, o20, o21, o22, o23, o24, o25, o26, o27, o28, o29, o30, o31, o32, o33, o34, o35, o36, o37, o38, o39, o40] Q S (fuel + 1) listed a w := wpAnyH_take (i := 1) (oi := o1) rfl hs hf hr hQ hy hS h
theorem tk2 (hs : Region.noSelect #[o0, o1, o2, o3, o4, o5, o6, o7, o8, o9, o10, o11, o12, o13, o14, o15, o16, o17, o18, o19, o20, o21, o22, o23, o24, o25, o26, o27, o28, o29, o30, o31, o32, o33, o34, o35, o36, o37, o38, o39, o40] = true) (hf : Region.free md #[o0, o1, o2, o3, o4, o5, o6, o7, o8, o9, o10, o11, o12, o13, o14, o15, o16, o17, o18, o19, o20, o21, o22, o23, o24, o25, o26, o27, o28, o29, o30, o31, o32, o33, o34, o35, o36, o37, o38, o39, o40] listed 2 = true) (hr : (Region.ready md #[o0, o1, o2, o3, o4, o5, o6, o7, o8, o9, o10, o11, o12, o13, o14, o15, o16, o17, o18, o19, o20, o21, o22, o23, o24, o25, o26, o27, o28, o29, o30, o31, o32, o33, o34, o35, o36, o37, o38, o39, o40] listed).contains 2 = true) (hQ : ∀ c a w, Q (.panic c) (a.put o2.dst v) w → Q (.panic c) a w) (hy : YieldsIf P #[o0, o1, o2, o3, o4, o5, o6, o7, o8, o9, o10, o11, o12, o13, o14, o15, o16, o17, o18, o19, o20, o21, o22, o23, o24, o25, o26, o27, o28, o29, o30, o31, o32, o33, o34, o35, o36, o37, o38, o39, o40] S o2 v a) (hS : S w) (h : wpAnyH P md #[o0, o1, o2, o3, o4, o5, o6, o7, o8, o9, o10, o11, o12, o13, o14, o15, o16, o17, o18, o19, o20, o21, o22, o23, o24, o25, o26, o27, o28, o29, o30, o31, o32, o33, o34, o35, o36, o37, o38, o39, o40] Q S fuel (listed.setIfInBounds 2 true) (a.put o2.dst v) w) : wpAnyH P md #[o0, o1, o2, o3, o4, o5, o6, o7, o8, o9, o10, o11, o12, o13, o14, o15, o16, o17, o18, o19, o20, o21, o22, o23, o24, o25, o26, o27, o28, o29, o30, o31, o32, o33, o34, o35, o36, o37, o38, o39, o40] Q S (fuel + 1) listed a w := wpAnyH_take (i := 2) (oi := o2) rfl hs hf hr hQ hy hS h
theorem tk3 (hs : Region.noSelect #[o0, o1, o2, o3, o4, o5, o6, o7, o8, o9, o10, o11, o12, o13, o14, o15, o16, o17, o18, o19, o20, o21, o22, o23, o24, o25, o26, o27, o28, o29, o30, o31, o32, o33, o34, o35, o36, o37, o38, o39, o40] = true) (hf : Region.free md #[o0, o1, o2, o3, o4, o5, o6, o7, o8, o9, o10, o11, o12, o13, o14, o15, o16, o17, o18, o19, o20, o21, o22, o23, o24, o25, o26, o27, o28, o29, o30, o31, o32, o33, o34, o35, o36, o37, o38, o39, o40] listed 3 = true) (hr : (Region.ready md #[o0, o1, o2, o3, o4, o5, o6, o7, o8, o9, o10, o11, o12, o13, o14, o15, o16, o17, o18, o19, o20, o21, o22, o23, o24, o25, o26, o27, o28, o29, o30, o31, o32, o33, o34, o35, o36, o37, o38, o39, o40] listed).contains 3 = true) (hQ : ∀ c a w, Q (.panic c) (a.put o3.dst v) w → Q (.panic c) a w) (hy : YieldsIf P #[o0, o1, o2, o3, o4, o5, o6, o7, o8, o9, o10, o11, o12, o13, o14, o15, o16, o17, o18, o19, o20, o21, o22, o23, o24, o25, o26, o27, o28, o29, o30, o31, o32, o33, o34, o35, o36, o37, o38, o39, o40] S o3 v a) (hS : S w) (h : wpAnyH P md #[o0, o1, o2, o3, o4, o5, o6, o7, o8, o9, o10, o11, o12, o13, o14, o15, o16, o17, o18, o19, o20, o21, o22, o23, o24, o25, o26, o27, o28, o29, o30, o31, o32, o33, o34, o35, o36, o37, o38, o39, o40] Q S fuel (listed.setIfInBounds 3 true) (a.put o3.dst v) w) : wpAnyH P md #[o0, o1, o2, o3, o4, o5, o6, o7, o8, o9, o10, o11, o12, o13, o14, o15, o16, o17, o18, o19, o20, o21, o22, o23, o24, o25, o26, o27, o28, o29, o30, o31, o32, o33, o34, o35, o36, o37, o38, o39, o40] Q S (fuel + 1) listed a w := wpAnyH_take (i := 3) (oi := o3) rfl hs hf hr hQ hy hS h
theorem ac3 (hr : Region.ready md #[o0, o1, o2, o3, o4, o5, o6, o7, o8, o9, o10, o11, o12, o13, o14, o15, o16, o17, o18, o19, o20, o21, o22, o23, o24, o25, o26, o27, o28, o29, o30, o31, o32, o33, o34, o35, o36, o37, o38, o39, o40] listed = [3]) (h : ∀ K' : Act → World → Prop, Shut (∀ a w, S w → (S w → wpAnyH P md #[o0, o1, o2, o3, o4, o5, o6, o7, o8, o9, o10, o11, o12, o13, o14, o15, o16, o17, o18, o19, o20, o21, o22, o23, o24, o25, o26, o27, o28, o29, o30, o31, o32, o33, o34, o35, o36, o37, o38, o39, o40] Q S fuel (listed.setIfInBounds 3 true) a w) → K' a w) → if Region.wanted o3 (yielded #[o0, o1, o2, o3, o4, o5, o6, o7, o8, o9, o10, o11, o12, o13, o14, o15, o16, o17, o18, o19, o20, o21, o22, o23, o24, o25, o26, o27, o28, o29, o30, o31, o32, o33, o34, o35, o36, o37, o38, o39, o40] a.tmps) = true then Oper.wp P o3 a w K' Q else K' (a.put o3.dst undef) w) : wpAnyH P md #[o0, o1, o2, o3, o4, o5, o6, o7, o8, o9, o10, o11, o12, o13, o14, o15, o16, o17, o18, o19, o20, o21, o22, o23, o24, o25, o26, o27, o28, o29, o30, o31, o32, o33, o34, o35, o36, o37, o38, o39, o40] Q S (fuel + 1) listed a w := wpAnyH_ready hr (by simp) (AllReadyH.cons (o := o3) rfl h AllReadyH.nil)
theorem tk4 (hs : Region.noSelect #[o0, o1, o2, o3, o4, o5, o6, o7, o8, o9, o10, o11, o12, o13, o14, o15, o16, o17, o18, o19, o20, o21, o22, o23, o24, o25, o26, o27, o28, o29, o30, o31, o32, o33, o34, o35, o36, o37, o38, o39, o40] = true) (hf : Region.free md #[o0, o1, o2, o3, o4, o5, o6, o7, o8, o9, o10, o11, o12, o13, o14, o15, o16, o17, o18, o19, o20, o21, o22, o23, o24, o25, o26, o27, o28, o29, o30, o31, o32, o33, o34, o35, o36, o37, o38, o39, o40] listed 4 = true) (hr : (Region.ready md #[o0, o1, o2, o3, o4, o5, o6, o7, o8, o9, o10, o11, o12, o13, o14, o15, o16, o17, o18, o19, o20, o21, o22, o23, o24, o25, o26, o27, o28, o29, o30, o31, o32, o33, o34, o35, o36, o37, o38, o39, o40] listed).contains 4 = true) (hQ : ∀ c a w, Q (.panic c) (a.put o4.dst v) w → Q (.panic c) a w) (hy : YieldsIf P #[o0, o1, o2, o3, o4, o5, o6, o7, o8, o9, o10, o11, o12, o13, o14, o15, o16, o17, o18, o19, o20, o21, o22, o23, o24, o25, o26, o27, o28, o29, o30, o31, o32, o33, o34, o35, o36, o37, o38, o39, o40] S o4 v a) (hS : S w) (h : wpAnyH P md #[o0, o1, o2, o3, o4, o5, o6, o7, o8, o9, o10, o11, o12, o13, o14, o15, o16, o17, o18, o19, o20, o21, o22, o23, o24, o25, o26, o27, o28, o29, o30, o31, o32, o33, o34, o35, o36, o37, o38, o39, o40] Q S fuel (listed.setIfInBounds 4 true) (a.put o4.dst v) w) : wpAnyH P md #[o0, o1, o2, o3, o4, o5, o6, o7, o8, o9, o10, o11, o12, o13, o14, o15, o16, o17, o18, o19, o20, o21, o22, o23, o24, o25, o26, o27, o28, o29, o30, o31, o32, o33, o34, o35, o36, o37, o38, o39, o40] Q S (fuel + 1) listed a w := wpAnyH_take (i := 4) (oi := o4) rfl hs hf hr hQ hy hS h
theorem ac4 (hr : Region.ready md #[o0, o1, o2, o3, o4, o5, o6, o7, o8, o9, o10, o11, o12, o13, o14, o15, o16, o17, o18, o19, o20, o21, o22, o23, o24, o25, o26, o27, o28, o29, o30, o31, o32, o33, o34, o35, o36, o37, o38, o39, o40] listed = [4]) (h : ∀ K' : Act → World → Prop, Shut (∀ a w, S w → (S w → wpAnyH P md #[o0, o1, o2, o3, o4, o5, o6, o7, o8, o9, o10, o11, o12, o13, o14, o15, o16, o17, o18, o19, o20, o21, o22, o23, o24, o25, o26, o27, o28, o29, o30, o31, o32, o33, o34, o35, o36, o37, o38, o39, o40] Q S fuel (listed.setIfInBounds 4 true) a w) → K' a w) → if Region.wanted o4 (yielded #[o0, o1, o2, o3, o4, o5, o6, o7, o8, o9, o10, o11, o12, o13, o14, o15, o16, o17, o18, o19, o20, o21, o22, o23, o24, o25, o26, o27, o28, o29, o30, o31, o32, o33, o34, o35, o36, o37, o38, o39, o40] a.tmps) = true then Oper.wp P o4 a w K' Q else K' (a.put o4.dst undef) w) : wpAnyH P md #[o0, o1, o2, o3, o4, o5, o6, o7, o8, o9, o10, o11, o12, o13, o14, o15, o16, o17, o18, o19, o20, o21, o22, o23, o24, o25, o26, o27, o28, o29, o30, o31, o32, o33, o34, o35, o36, o37, o38, o39, o40] Q S (fuel + 1) listed a w := wpAnyH_ready hr (by simp) (AllReadyH.cons (o := o4) rfl h AllReadyH.nil)
theorem tk5 (hs : Region.noSelect #[o0, o1, o2, o3, o4, o5, o6, o7, o8, o9, o10, o11, o12, o13, o14, o15, o16, o17, o18, o19, o20, o21, o22, o23, o24, o25, o26, o27, o28, o29, o30, o31, o32, o33, o34, o35, o36, o37, o38, o39, o40] = true) (hf : Region.free md #[o0, o1, o2, o3, o4, o5, o6, o7, o8, o9, o10, o11, o12, o13, o14, o15, o16, o17, o18, o19, o20, o21, o22, o23, o24, o25, o26, o27, o28, o29, o30, o31, o32, o33, o34, o35, o36, o37, o38, o39, o40] listed 5 = true) (hr : (Region.ready md #[o0, o1, o2, o3, o4, o5, o6, o7, o8, o9, o10, o11, o12, o13, o14, o15, o16, o17, o18, o19, o20, o21, o22, o23, o24, o25, o26, o27, o28, o29, o30, o31, o32, o33, o34, o35, o36, o37, o38, o39, o40] listed).contains 5 = true) (hQ : ∀ c a w, Q (.panic c) (a.put o5.dst v) w → Q (.panic c) a w) (hy : YieldsIf P #[o0, o1, o2, o3, o4, o5, o6, o7, o8, o9, o10, o11, o12, o13, o14, o15, o16, o17, o18, o19, o20, o21, o22, o23, o24, o25, o26, o27, o28, o29, o30, o31, o32, o33, o34, o35, o36, o37, o38, o39, o40] S o5 v a) (hS : S w) (h : wpAnyH P md #[o0, o1, o2, o3, o4, o5, o6, o7, o8, o9, o10, o11, o12, o13, o14, o15, o16, o17, o18, o19, o20, o21, o22, o23, o24, o25, o26, o27, o28, o29, o30, o31, o32, o33, o34, o35, o36, o37, o38, o39, o40] Q S fuel (listed.setIfInBounds 5 true) (a.put o5.dst v) w) : wpAnyH P md #[o0, o1, o2, o3, o4, o5, o6, o7, o8, o9, o10, o11, o12, o13, o14, o15, o16, o17, o18, o19, o20, o21, o22, o23, o24, o25, o26, o27, o28, o29, o30, o31, o32, o33, o34, o35, o36, o37, o38, o39, o40] Q S (fuel + 1) listed a w := wpAnyH_take (i := 5) (oi := o5) rfl hs hf hr hQ hy hS h
theorem tk6 (hs : Region.noSelect #[o0, o1, o2, o3, o4, o5, o6, o7, o8, o9, o10, o11, o12, o13, o14, o15, o16, o17, o18, o19, o20, o21, o22, o23, o24, o25, o26, o27, o28, o29, o30, o31, o32, o33, o34, o35, o36, o37, o38, o39, o40] = true) (hf : Region.free md #[o0, o1, o2, o3, o4, o5, o6, o7, o8, o9, o10, o11, o12, o13, o14, o15, o16, o17, o18, o19, o20, o21, o22, o23, o24, o25, o26, o27, o28, o29, o30, o31, o32, o33, o34, o35, o36, o37, o38, o39, o40] listed 6 = true) (hr : (Region.ready md #[o0, o1, o2, o3, o4, o5, o6, o7, o8, o9, o10, o11, o12, o13, o14, o15, o16, o17, o18, o19, o20, o21, o22, o23, o24, o25, o26, o27, o28, o29, o30, o31, o32, o33, o34, o35, o36, o37, o38, o39, o40] listed).contains 6 = true) (hQ : ∀ c a w, Q (.panic c) (a.put o6.dst v) w → Q (.panic c) a w) (hy : YieldsIf P #[o0, o1, o2, o3, o4, o5, o6, o7, o8, o9, o10, o11, o12, o13, o14, o15, o16, o17, o18, o19, o20, o21, o22, o23, o24, o25, o26, o27, o28, o29, o30, o31, o32, o33, o34, o35, o36, o37, o38, o39, o40] S o6 v a) (hS : S w) (h : wpAnyH P md #[o0, o1, o2, o3, o4, o5, o6, o7, o8, o9, o10, o11, o12, o13, o14, o15, o16, o17, o18, o19, o20, o21, o22, o23, o24, o25, o26, o27, o28, o29, o30, o31, o32, o33, o34, o35, o36, o37, o38, o39, o40] Q S fuel (listed.setIfInBounds 6 true) (a.put o6.dst v) w) : wpAnyH P md #[o0, o1, o2, o3, o4, o5, o6, o7, o8, o9, o10, o11, o12, o13, o14, o15, o16, o17, o18, o19, o20, o21, o22, o23, o24, o25, o26, o27, o28, o29, o30, o31, o32, o33, o34, o35, o36, o37, o38, o39, o40] Q S (fuel + 1) listed a w := wpAnyH_take (i := 6) (oi := o6) rfl hs hf hr hQ hy hS h
theorem tk7 (hs : Region.noSelect #[o0, o1, o2, o3, o4, o5, o6, o7, o8, o9, o10, o11, o12, o13, o14, o15, o16, o17, o18, o19, o20, o21, o22, o23, o24, o25, o26, o27, o28, o29, o30, o31, o32, o33, o34, o35, o36, o37, o38, o39, o40] = true) (hf : Region.free md #[o0, o1, o2, o3, o4, o5, o6, o7, o8, o9, o10, o11, o12, o13, o14, o15, o16, o17, o18, o19, o20, o21, o22, o23, o24, o25, o26, o27, o28, o29, o30, o31, o32, o33, o34, o35, o36, o37, o38, o39, o40] listed 7 = true) (hr : (Region.ready md #[o0, o1, o2, o3, o4, o5, o6, o7, o8, o9, o10, o11, o12, o13, o14, o15, o16, o17, o18, o19, o20, o21, o22, o23, o24, o25, o26, o27, o28, o29, o30, o31, o32, o33, o34, o35, o36, o37, o38, o39, o40] listed).contains 7 = true) (hQ : ∀ c a w, Q (.panic c) (a.put o7.dst v) w → Q (.panic c) a w) (hy : YieldsIf P #[o0, o1, o2, o3, o4, o5, o6, o7, o8, o9, o10, o11, o12, o13, o14, o15, o16, o17, o18, o19, o20, o21, o22, o23, o24, o25, o26, o27, o28, o29, o30, o31, o32, o33, o34, o35, o36, o37, o38, o39, o40] S o7 v a) (hS : S w) (h : wpAnyH P md #[o0, o1, o2, o3, o4, o5, o6, o7, o8, o9, o10, o11, o12, o13, o14, o15, o16, o17, o18, o19, o20, o21, o22, o23, o24, o25, o26, o27, o28, o29, o30, o31, o32, o33, o34, o35, o36, o37, o38, o39, o40] Q S fuel (listed.setIfInBounds 7 true) (a.put o7.dst v) w) : wpAnyH P md #[o0, o1, o2, o3, o4, o5, o6, o7, o8, o9, o10, o11, o12, o13, o14, o15, o16, o17, o18, o19, o20, o21, o22, o23, o24, o25, o26, o27, o28, o29, o30, o31, o32, o33, o34, o35, o36, o37, o38, o39, o40] Q S (fuel + 1) listed a w := wpAnyH_take (i := 7) (oi := o7) rfl hs hf hr hQ hy hS h
theorem ac7 (hr : Region.ready md #[o0, o1, o2, o3, o4, o5, o6, o7, o8, o9, o10, o11, o12, o13, o14, o15, o16, o17, o18, o19, o20, o21, o22, o23, o24, o25, o26, o27, o28, o29, o30, o31, o32, o33, o34, o35, o36, o37, o38, o39, o40] listed = [7]) (h : ∀ K' : Act → World → Prop, Shut (∀ a w, S w → (S w → wpAnyH P md #[o0, o1, o2, o3, o4, o5, o6, o7, o8, o9, o10, o11, o12, o13, o14, o15, o16, o17, o18, o19, o20, o21, o22, o23, o24, o25, o26, o27, o28, o29, o30, o31, o32, o33, o34, o35, o36, o37, o38, o39, o40] Q S fuel (listed.setIfInBounds 7 true) a w) → K' a w) → if Region.wanted o7 (yielded #[o0, o1, o2, o3, o4, o5, o6, o7, o8, o9, o10, o11, o12, o13, o14, o15, o16, o17, o18, o19, o20, o21, o22, o23, o24, o25, o26, o27, o28, o29, o30, o31, o32, o33, o34, o35, o36, o37, o38, o39, o40] a.tmps) = true then Oper.wp P o7 a w K' Q else K' (a.put o7.dst undef) w) : wpAnyH P md #[o0, o1, o2, o3, o4, o5, o6, o7, o8, o9, o10, o11, o12, o13, o14, o15, o16, o17, o18, o19, o20, o21, o22, o23, o24, o25, o26, o27, o28, o29, o30, o31, o32, o33, o34, o35, o36, o37, o38, o39, o40] Q S (fuel + 1) listed a w := wpAnyH_ready hr (by simp) (AllReadyH.cons (o := o7) rfl h AllReadyH.nil)
theorem tk8 (hs : Region.noSelect #[o0, o1, o2, o3, o4, o5, o6, o7, o8, o9, o10, o11, o12, o13, o14, o15, o16, o17, o18, o19, o20, o21, o22, o23, o24, o25, o26, o27, o28, o29, o30, o31, o32, o33, o34, o35, o36, o37, o38, o39, o40] = true) (hf : Region.free md #[o0, o1, o2, o3, o4, o5, o6, o7, o8, o9, o10, o11, o12, o13, o14, o15, o16, o17, o18, o19, o20, o21, o22, o23, o24, o25, o26, o27, o28, o29, o30, o31, o32, o33, o34, o35, o36, o37, o38, o39, o40] listed 8 = true) (hr : (Region.ready md #[o0, o1, o2, o3, o4, o5, o6, o7, o8, o9, o10, o11, o12, o13, o14, o15, o16, o17, o18, o19, o20, o21, o22, o23, o24, o25, o26, o27, o28, o29, o30, o31, o32, o33, o34, o35, o36, o37, o38, o39, o40] listed).contains 8 = true) (hQ : ∀ c a w, Q (.panic c) (a.put o8.dst v) w → Q (.panic c) a w) (hy : YieldsIf P #[o0, o1, o2, o3, o4, o5, o6, o7, o8, o9, o10, o11, o12, o13, o14, o15, o16, o17, o18, o19, o20, o21, o22, o23, o24, o25, o26, o27, o28, o29, o30, o31, o32, o33, o34, o35, o36, o37, o38, o39, o40] S o8 v a) (hS : S w) (h : wpAnyH P md #[o0, o1, o2, o3, o4, o5, o6, o7, o8, o9, o10, o11, o12, o13, o14, o15, o16, o17, o18, o19, o20, o21, o22, o23, o24, o25, o26, o27, o28, o29, o30, o31, o32, o33, o34, o35, o36, o37, o38, o39, o40] Q S fuel (listed.setIfInBounds 8 true) (a.put o8.dst v) w) : wpAnyH P md #[o0, o1, o2, o3, o4, o5, o6, o7, o8, o9, o10, o11, o12, o13, o14, o15, o16, o17, o18, o19, o20, o21, o22, o23, o24, o25, o26, o27, o28, o29, o30, o31, o32, o33, o34, o35, o36, o37, o38, o39, o40] Q S (fuel + 1) listed a w := wpAnyH_take (i := 8) (oi := o8) rfl hs hf hr hQ hy hS h
theorem ac8 (hr : Region.ready md #[o0, o1, o2, o3, o4, o5, o6, o7, o8, o9, o10, o11, o12, o13, o14, o15, o16, o17, o18, o19, o20, o21, o22, o23, o24, o25, o26, o27, o28, o29, o30, o31, o32, o33, o34, o35, o36, o37, o38, o39, o40] listed = [8]) (h : ∀ K' : Act → World → Prop, Shut (∀ a w, S w → (S w → wpAnyH P md #[o0, o1, o2, o3, o4, o5, o6, o7, o8, o9, o10, o11, o12, o13, o14, o15, o16, o17, o18, o19, o20, o21, o22, o23, o24, o25, o26, o27, o28, o29, o30, o31, o32, o33, o34, o35, o36, o37, o38, o39, o40] Q S fuel (listed.setIfInBounds 8 true) a w) → K' a w) → if Region.wanted o8 (yielded #[o0, o1, o2, o3, o4, o5, o6, o7, o8, o9, o10, o11, o12, o13, o14, o15, o16, o17, o18, o19, o20, o21, o22, o23, o24, o25, o26, o27, o28, o29, o30, o31, o32, o33, o34, o35, o36, o37, o38, o39, o40] a.tmps) = true then Oper.wp P o8 a w K' Q else K' (a.put o8.dst undef) w) : wpAnyH P md #[o0, o1, o2, o3, o4, o5, o6, o7, o8, o9, o10, o11, o12, o13, o14, o15, o16, o17, o18, o19, o20, o21, o22, o23, o24, o25, o26, o27, o28, o29, o30, o31, o32, o33, o34, o35, o36, o37, o38, o39, o40] Q S (fuel + 1) listed a w := wpAnyH_ready hr (by simp) (AllReadyH.cons (o := o8) rfl h AllReadyH.nil)
theorem tk9 (hs : Region.noSelect #[o0, o1, o2, o3, o4, o5, o6, o7, o8, o9, o10, o11, o12, o13, o14, o15, o16, o17, o18, o19, o20, o21, o22, o23, o24, o25, o26, o27, o28, o29, o30, o31, o32, o33, o34, o35, o36, o37, o38, o39, o40] = true) (hf : Region.free md #[o0, o1, o2, o3, o4, o5, o6, o7, o8, o9, o10, o11, o12, o13, o14, o15, o16, o17, o18, o19, o20, o21, o22, o23, o24, o25, o26, o27, o28, o29, o30, o31, o32, o33, o34, o35, o36, o37, o38, o39, o40] listed 9 = true) (hr : (Region.ready md #[o0, o1, o2, o3, o4, o5, o6, o7, o8, o9, o10, o11, o12, o13, o14, o15, o16, o17, o18, o19, o20, o21, o22, o23, o24, o25, o26, o27, o28, o29, o30, o31, o32, o33, o34, o35, o36, o37, o38, o39, o40] listed).contains 9 = true) (hQ : ∀ c a w, Q (.panic c) (a.put o9.dst v) w → Q (.panic c) a w) (hy : YieldsIf P #[o0, o1, o2, o3, o4, o5, o6, o7, o8, o9, o10, o11, o12, o13, o14, o15, o16, o17, o18, o19, o20, o21, o22, o23, o24, o25, o26, o27, o28, o29, o30, o31, o32, o33, o34, o35, o36, o37, o38, o39, o40] S o9 v a) (hS : S w) (h : wpAnyH P md #[o0, o1, o2, o3, o4, o5, o6, o7, o8, o9, o10, o11, o12, o13, o14, o15, o16, o17, o18, o19, o20, o21, o22, o23, o24, o25, o26, o27, o28, o29, o30, o31, o32, o33, o34, o35, o36, o37, o38, o39, o40] Q S fuel (listed.setIfInBounds 9 true) (a.put o9.dst v) w) : wpAnyH P md #[o0, o1, o2, o3, o4, o5, o6, o7, o8, o9, o10, o11, o12, o13, o14, o15, o16, o17, o18, o19, o20, o21, o22, o23, o24, o25, o26, o27, o28, o29, o30, o31, o32, o33, o34, o35, o36, o37, o38, o39, o40] Q S (fuel + 1) listed a w := wpAnyH_take (i := 9) (oi := o9) rfl hs hf hr hQ hy hS h
theorem ac9 (hr : Region.ready md #[o0, o1, o2, o3, o4, o5, o6, o7, o8, o9, o10, o11, o12, o13, o14, o15, o16, o17, o18, o19, o20, o21, o22, o23, o24, o25, o26, o27, o28, o29, o30, o31, o32, o33, o34, o35, o36, o37, o38, o39, o40] listed = [9]) (h : ∀ K' : Act → World → Prop, Shut (∀ a w, S w → (S w → wpAnyH P md #[o0, o1, o2, o3, o4, o5, o6, o7, o8, o9, o10, o11, o12, o13, o14, o15, o16, o17, o18, o19, o20, o21, o22, o23, o24, o25, o26, o27, o28, o29, o30, o31, o32, o33, o34, o35, o36, o37, o38, o39, o40] Q S fuel (listed.setIfInBounds 9 true) a w) → K' a w) → if Region.wanted o9 (yielded #[o0, o1, o2, o3, o4, o5, o6, o7, o8, o9, o10, o11, o12, o13, o14, o15, o16, o17, o18, o19, o20, o21, o22, o23, o24, o25, o26, o27, o28, o29, o30, o31, o32, o33, o34, o35, o36, o37, o38, o39, o40] a.tmps) = true then Oper.wp P o9 a w K' Q else K' (a.put o9.dst undef) w) : wpAnyH P md #[o0, o1, o2, o3, o4, o5, o6, o7, o8, o9, o10, o11, o12, o13, o14, o15, o16, o17, o18, o19, o20, o21, o22, o23, o24, o25, o26, o27, o28, o29, o30, o31, o32, o33, o34, o35, o36, o37, o38, o39, o40] Q S (fuel + 1) listed a w := wpAnyH_ready hr (by simp) (AllReadyH.cons (o := o9) rfl h AllReadyH.nil)
theorem tk10 (hs : Region.noSelect #[o0, o1, o2, o3, o4, o5, o6, o7, o8, o9, o10, o11, o12, o13, o14, o15, o16, o17, o18, o19, o20, o21, o22, o23, o24, o25, o26, o27, o28, o29, o30, o31, o32, o33, o34, o35, o36, o37, o38, o39, o40] = true) (hf : Region.free md #[o0, o1, o2, o3, o4, o5, o6, o7, o8, o9, o10, o11, o12, o13, o14, o15, o16, o17, o18, o19, o20, o21, o22, o23, o24, o25, o26, o27, o28, o29, o30, o31, o32, o33, o34, o35, o36, o37, o38, o39, o40] listed 10 = true) (hr : (Region.ready md #[o0, o1, o2, o3, o4, o5, o6, o7, o8, o9, o10, o11, o12, o13, o14, o15, o16, o17, o18, o19, o20, o21, o22, o23, o24, o25, o26, o27, o28, o29, o30, o31, o32, o33, o34, o35, o36, o37, o38, o39, o40] listed).contains 10 = true) (hQ : ∀ c a w, Q (.panic c) (a.put o10.dst v) w → Q (.panic c) a w) (hy : YieldsIf P #[o0, o1, o2, o3, o4, o5, o6, o7, o8, o9, o10, o11, o12, o13, o14, o15, o16, o17, o18, o19, o20, o21, o22, o23, o24, o25, o26, o27, o28, o29, o30, o31, o32, o33, o34, o35, o36, o37, o38, o39, o40] S o10 v a) (hS : S w) (h : wpAnyH P md #[o0, o1, o2, o3, o4, o5, o6, o7, o8, o9, o10, o11, o12, o13, o14, o15, o16, o17, o18, o19, o20, o21, o22, o23, o24, o25, o26, o27, o28, o29, o30, o31, o32, o33, o34, o35, o36, o37, o38, o39, o40] Q S fuel (listed.setIfInBounds 10 true) (a.put o10.dst v) w) : wpAnyH P md #[o0, o1, o2, o3, o4, o5, o6, o7, o8, o9, o10, o11, o12, o13, o14, o15, o16, o17, o18, o19, o20, o21, o22, o23, o24, o25, o26, o27, o28, o29, o30, o31, o32, o33, o34, o35, o36, o37, o38, o39, o40] Q S (fuel + 1) listed a w := wpAnyH_take (i := 10) (oi := o10) rfl hs hf hr hQ hy hS h
theorem tk11 (hs : Region.noSelect #[o0, o1, o2, o3, o4, o5, o6, o7, o8, o9, o10, o11, o12, o13, o14, o15, o16, o17, o18, o19, o20, o21, o22, o23, o24, o25, o26, o27, o28, o29, o30, o31, o32, o33, o34, o35, o36, o37, o38, o39, o40] = true) (hf : Region.free md #[o0, o1, o2, o3, o4, o5, o6, o7, o8, o9, o10, o11, o12, o13, o14, o15, o16, o17, o18, o19, o20, o21, o22, o23, o24, o25, o26, o27, o28, o29, o30, o31, o32, o33, o34, o35, o36, o37, o38, o39, o40] listed 11 = true) (hr : (Region.ready md #[o0, o1, o2, o3, o4, o5, o6, o7, o8, o9, o10, o11, o12, o13, o14, o15, o16, o17, o18, o19, o20, o21, o22, o23, o24, o25, o26, o27, o28, o29, o30, o31, o32, o33, o34, o35, o36, o37, o38, o39, o40] listed).contains 11 = true) (hQ : ∀ c a w, Q (.panic c) (a.put o11.dst v) w → Q (.panic c) a w) (hy : YieldsIf P #[o0, o1, o2, o3, o4, o5, o6, o7, o8, o9, o10, o11, o12, o13, o14, o15, o16, o17, o18, o19, o20, o21, o22, o23, o24, o25, o26, o27, o28, o29, o30, o31, o32, o33, o34, o35, o36, o37, o38, o39, o40] S o11 v a) (hS : S w) (h : wpAnyH P md #[o0, o1, o2, o3, o4, o5, o6, o7, o8, o9, o10, o11, o12, o13, o14, o15, o16, o17, o18, o19, o20, o21, o22, o23, o24, o25, o26, o27, o28, o29, o30, o31, o32, o33, o34, o35, o36, o37, o38, o39, o40] Q S fuel (listed.setIfInBounds 11 true) (a.put o11.dst v) w) : wpAnyH P md #[o0, o1, o2, o3, o4, o5, o6, o7, o8, o9, o10, o11, o12, o13, o14, o15, o16, o17, o18, o19, o20, o21, o22, o23, o24, o25, o26, o27, o28, o29, o30, o31, o32, o33, o34, o35, o36, o37, o38, o39, o40] Q S (fuel + 1) listed a w := wpAnyH_take (i := 11) (oi := o11) rfl hs hf hr hQ hy hS h
theorem ac11 (hr : Region.ready md #[o0, o1, o2, o3, o4, o5, o6, o7, o8, o9, o10, o11, o12, o13, o14, o15, o16, o17, o18, o19, o20, o21, o22, o23, o24, o25, o26, o27, o28, o29, o30, o31, o32, o33, o34, o35, o36, o37, o38, o39, o40] listed = [11]) (h : ∀ K' : Act → World → Prop, Shut (∀ a w, S w → (S w → wpAnyH P md #[o0, o1, o2, o3, o4, o5, o6, o7, o8, o9, o10, o11, o12, o13, o14, o15, o16, o17, o18, o19, o20, o21, o22, o23, o24, o25, o26, o27, o28, o29, o30, o31, o32, o33, o34, o35, o36, o37, o38, o39, o40] Q S fuel (listed.setIfInBounds 11 true) a w) → K' a w) → if Region.wanted o11 (yielded #[o0, o1, o2, o3, o4, o5, o6, o7, o8, o9, o10, o11, o12, o13, o14, o15, o16, o17, o18, o19, o20, o21, o22, o23, o24, o25, o26, o27, o28, o29, o30, o31, o32, o33, o34, o35, o36, o37, o38, o39, o40] a.tmps) = true then Oper.wp P o11 a w K' Q else K' (a.put o11.dst undef) w) : wpAnyH P md #[o0, o1, o2, o3, o4, o5, o6, o7, o8, o9, o10, o11, o12, o13, o14, o15, o16, o17, o18, o19, o20, o21, o22, o23, o24, o25, o26, o27, o28, o29, o30, o31, o32, o33, o34, o35, o36, o37, o38, o39, o40] Q S (fuel + 1) listed a w := wpAnyH_ready hr (by simp) (AllReadyH.cons (o := o11) rfl h AllReadyH.nil)
theorem tk12 (hs : Region.noSelect #[o0, o1, o2, o3, o4, o5, o6, o7, o8, o9, o10, o11, o12, o13, o14, o15, o16, o17, o18, o19, o20, o21, o22, o23, o24, o25, o26, o27, o28, o29, o30, o31, o32, o33, o34, o35, o36, o37, o38, o39, o40] = true) (hf : Region.free md #[o0, o1, o2, o3, o4, o5, o6, o7, o8, o9, o10, o11, o12, o13, o14, o15, o16, o17, o18, o19, o20, o21, o22, o23, o24, o25, o26, o27, o28, o29, o30, o31, o32, o33, o34, o35, o36, o37, o38, o39, o40] listed 12 = true) (hr : (Region.ready md #[o0, o1, o2, o3, o4, o5, o6, o7, o8, o9, o10, o11, o12, o13, o14, o15, o16, o17, o18, o19, o20, o21, o22, o23, o24, o25, o26, o27, o28, o29, o30, o31, o32, o33, o34, o35, o36, o37, o38, o39, o40] listed).contains 12 = true) (hQ : ∀ c a w, Q (.panic c) (a.put o12.dst v) w → Q (.panic c) a w) (hy : YieldsIf P #[o0, o1, o2, o3, o4, o5, o6, o7, o8, o9, o10, o11, o12, o13, o14, o15, o16, o17, o18, o19, o20, o21, o22, o23, o24, o25, o26, o27, o28, o29, o30, o31, o32, o33, o34, o35, o36, o37, o38, o39, o40] S o12 v a) (hS : S w) (h : wpAnyH P md #[o0, o1, o2, o3, o4, o5, o6, o7, o8, o9, o10, o11, o12, o13, o14, o15, o16, o17, o18, o19, o20, o21, o22, o23, o24, o25, o26, o27, o28, o29, o30, o31, o32, o33, o34, o35, o36, o37, o38, o39, o40] Q S fuel (listed.setIfInBounds 12 true) (a.put o12.dst v) w) : wpAnyH P md #[o0, o1, o2, o3, o4, o5, o6, o7, o8, o9, o10, o11, o12, o13, o14, o15, o16, o17, o18, o19, o20, o21, o22, o23, o24, o25, o26, o27, o28, o29, o30, o31, o32, o33, o34, o35, o36, o37, o38, o39, o40] Q S (fuel + 1) listed a w := wpAnyH_take (i := 12) (oi := o12) rfl hs hf hr hQ hy hS h
theorem ac12 (hr : Region.ready md #[o0, o1, o2, o3, o4, o5, o6, o7, o8, o9, o10, o11, o12, o13, o14, o15, o16, o17, o18, o19, o20, o21, o22, o23, o24, o25, o26, o27, o28, o29, o30, o31, o32, o33, o34, o35, o36, o37, o38, o39, o40] listed = [12]) (h : ∀ K' : Act → World → Prop, Shut (∀ a w, S w → (S w → wpAnyH P md #[o0, o1, o2, o3, o4, o5, o6, o7, o8, o9, o10, o11, o12, o13, o14, o15, o16, o17, o18, o19, o20, o21, o22, o23, o24, o25, o26, o27, o28, o29, o30, o31, o32, o33, o34, o35, o36, o37, o38, o39, o40] Q S fuel (listed.setIfInBounds 12 true) a w) → K' a w) → if Region.wanted o12 (yielded #[o0, o1, o2, o3, o4, o5, o6, o7, o8, o9, o10, o11, o12, o13, o14, o15, o16, o17, o18, o19, o20, o21, o22, o23, o24, o25, o26, o27, o28, o29, o30, o31, o32, o33, o34, o35, o36, o37, o38, o39, o40] a.tmps) = true then Oper.wp P o12 a w K' Q else K' (a.put o12.dst undef) w) : wpAnyH P md #[o0, o1, o2, o3, o4, o5, o6, o7, o8, o9, o10, o11, o12, o13, o14, o15, o16, o17, o18, o19, o20, o21, o22, o23, o24, o25, o26, o27, o28, o29, o30, o31, o32, o33, o34, o35, o36, o37, o38, o39, o40] Q S (fuel + 1) listed a w := wpAnyH_ready hr (by simp) (AllReadyH.cons (o := o12) rfl h AllReadyH.nil)
theorem tk13 (hs : Region.noSelect #[o0, o1, o2, o3, o4, o5, o6, o7, o8, o9, o10, o11, o12, o13, o14, o15, o16, o17, o18, o19, o20, o21, o22, o23, o24, o25, o26, o27, o28, o29, o30, o31, o32, o33, o34, o35, o36, o37, o38, o39, o40] = true) (hf : Region.free md #[o0, o1, o2, o3, o4, o5, o6, o7, o8, o9, o10, o11, o12, o13, o14, o15, o16, o17, o18, o19, o20, o21, o22, o23, o24, o25, o26, o27, o28, o29, o30, o31, o32, o33, o34, o35, o36, o37, o38, o39, o40] listed 13 = true) (hr : (Region.ready md #[o0, o1, o2, o3, o4, o5, o6, o7, o8, o9, o10, o11, o12, o13, o14, o15, o16, o17, o18, o19, o20, o21, o22, o23, o24, o25, o26, o27, o28, o29, o30, o31, o32, o33, o34, o35, o36, o37, o38, o39, o40] listed).contains 13 = true) (hQ : ∀ c a w, Q (.panic c) (a.put o13.dst v) w → Q (.panic c) a w) (hy : YieldsIf P #[o0, o1, o2, o3, o4, o5, o6, o7, o8, o9, o10, o11, o12, o13, o14, o15, o16, o17, o18, o19, o20, o21, o22, o23, o24, o25, o26, o27, o28, o29, o30, o31, o32, o33, o34, o35, o36, o37, o38, o39, o40] S o13 v a) (hS : S w) (h : wpAnyH P md #[o0, o1, o2, o3, o4, o5, o6, o7, o8, o9, o10, o11, o12, o13, o14, o15, o16, o17, o18, o19, o20, o21, o22, o23, o24, o25, o26, o27, o28, o29, o30, o31, o32, o33, o34, o35, o36, o37, o38, o39, o40] Q S fuel (listed.setIfInBounds 13 true) (a.put o13.dst v) w) : wpAnyH P md #[o0, o1, o2, o3, o4, o5, o6, o7, o8, o9, o10, o11, o12, o13, o14, o15, o16, o17, o18, o19, o20, o21, o22, o23, o24, o25, o26, o27, o28, o29, o30, o31, o32, o33, o34, o35, o36, o37, o38, o39, o40] Q S (fuel + 1) listed a w := wpAnyH_take (i := 13) (oi := o13) rfl hs hf hr hQ hy hS h
theorem tk14 (hs : Region.noSelect #[o0, o1, o2, o3, o4, o5, o6, o7, o8, o9, o10, o11, o12, o13, o14, o15, o16, o17, o18, o19, o20, o21, o22, o23, o24, o25, o26, o27, o28, o29, o30, o31, o32, o33, o34, o35, o36, o37, o38, o39, o40] = true) (hf : Region.free md #[o0, o1, o2, o3, o4, o5, o6, o7, o8, o9, o10, o11, o12, o13, o14, o15, o16, o17, o18, o19, o20, o21, o22, o23, o24, o25, o26, o27, o28, o29, o30, o31, o32, o33, o34, o35, o36, o37, o38, o39, o40] listed 14 = true) (hr : (Region.ready md #[o0, o1, o2, o3, o4, o5, o6, o7, o8, o9, o10, o11, o12, o13, o14, o15, o16, o17, o18, o19, o20, o21, o22, o23, o24, o25, o26, o27, o28, o29, o30, o31, o32, o33, o34, o35, o36, o37, o38, o39, o40] listed).contains 14 = true) (hQ : ∀ c a w, Q (.panic c) (a.put o14.dst v) w → Q (.panic c) a w) (hy : YieldsIf P #[o0, o1, o2, o3, o4, o5, o6, o7, o8, o9, o10, o11, o12, o13, o14, o15, o16, o17, o18, o19, o20, o21, o22, o23, o24, o25, o26, o27, o28, o29, o30, o31, o32, o33, o34, o35, o36, o37, o38, o39, o40] S o14 v a) (hS : S w) (h : wpAnyH P md #[o0, o1, o2, o3, o4, o5, o6, o7, o8, o9, o10, o11, o12, o13, o14, o15, o16, o17, o18, o19, o20, o21, o22, o23, o24, o25, o26, o27, o28, o29, o30, o31, o32, o33, o34, o35, o36, o37, o38, o39, o40] Q S fuel (listed.setIfInBounds 14 true) (a.put o14.dst v) w) : wpAnyH P md #[o0, o1, o2, o3, o4, o5, o6, o7, o8, o9, o10, o11, o12, o13, o14, o15, o16, o17, o18, o19, o20, o21, o22, o23, o24, o25, o26, o27, o28, o29, o30, o31, o32, o33, o34, o35, o36, o37, o38, o39, o40] Q S (fuel + 1) listed a w := wpAnyH_take (i := 14) (oi := o14) rfl hs hf hr hQ hy hS h
theorem tk15 (hs : Region.noSelect #[o0, o1, o2, o3, o4, o5, o6, o7, o8, o9, o10, o11, o12, o13, o14, o15, o16, o17, o18, o19, o20, o21, o22, o23, o24, o25, o26, o27, o28, o29, o30, o31, o32, o33, o34, o35, o36, o37, o38, o39, o40] = true) (hf : Region.free md #[o0, o1, o2, o3, o4, o5, o6, o7, o8, o9, o10, o11, o12, o13, o14, o15, o16, o17, o18, o19, o20, o21, o22, o23, o24, o25, o26, o27, o28, o29, o30, o31, o32, o33, o34, o35, o36, o37, o38, o39, o40] listed 15 = true) (hr : (Region.ready md #[o0, o1, o2, o3, o4, o5, o6, o7, o8, o9, o10, o11, o12, o13, o14, o15, o16, o17, o18, o19, o20, o21, o22, o23, o24, o25, o26, o27, o28, o29, o30, o31, o32, o33, o34, o35, o36, o37, o38, o39, o40] listed).contains 15 = true) (hQ : ∀ c a w, Q (.panic c) (a.put o15.dst v) w → Q (.panic c) a w) (hy : YieldsIf P #[o0, o1, o2, o3, o4, o5, o6, o7, o8, o9, o10, o11, o12, o13, o14, o15, o16, o17, o18, o19, o20, o21, o22, o23, o24, o25, o26, o27, o28, o29, o30, o31, o32, o33, o34, o35, o36, o37, o38, o39, o40] S o15 v a) (hS : S w) (h : wpAnyH P md #[o0, o1, o2, o3, o4, o5, o6, o7, o8, o9, o10, o11, o12, o13, o14, o15, o16, o17, o18, o19, o20, o21, o22, o23, o24, o25, o26, o27, o28, o29, o30, o31, o32, o33, o34, o35, o36, o37, o38, o39, o40] Q S fuel (listed.setIfInBounds 15 true) (a.put o15.dst v) w) : wpAnyH P md #[o0, o1, o2, o3, o4, o5, o6, o7, o8, o9, o10, o11, o12, o13, o14, o15, o16, o17, o18, o19, o20, o21, o22, o23, o24, o25, o26, o27, o28, o29, o30, o31, o32, o33, o34, o35, o36, o37, o38, o39, o40] Q S (fuel + 1) listed a w := wpAnyH_take (i := 15) (oi := o15) rfl hs hf hr hQ hy hS h
theorem ac15 (hr : Region.ready md #[o0, o1, o2, o3, o4, o5, o6, o7, o8, o9, o10, o11, o12, o13, o14, o15, o16, o17, o18, o19, o20, o21, o22, o23, o24, o25, o26, o27, o28, o29, o30, o31, o32, o33, o34, o35, o36, o37, o38, o39, o40] listed = [15]) (h : ∀ K' : Act → World → Prop, Shut (∀ a w, S w → (S w → wpAnyH P md #[o0, o1, o2, o3, o4, o5, o6, o7, o8, o9, o10, o11, o12, o13, o14, o15, o16, o17, o18, o19, o20, o21, o22, o23, o24, o25, o26, o27, o28, o29, o30, o31, o32, o33, o34, o35, o36, o37, o38, o39, o40] Q S fuel (listed.setIfInBounds 15 true) a w) → K' a w) → if Region.wanted o15 (yielded #[o0, o1, o2, o3, o4, o5, o6, o7, o8, o9, o10, o11, o12, o13, o14, o15, o16, o17, o18, o19, o20, o21, o22, o23, o24, o25, o26, o27, o28, o29, o30, o31, o32, o33, o34, o35, o36, o37, o38, o39, o40] a.tmps) = true then Oper.wp P o15 a w K' Q else K' (a.put o15.dst undef) w) : wpAnyH P md #[o0, o1, o2, o3, o4, o5, o6, o7, o8, o9, o10, o11, o12, o13, o14, o15, o16, o17, o18, o19, o20, o21, o22, o23, o24, o25, o26, o27, o28, o29, o30, o31, o32, o33, o34, o35, o36, o37, o38, o39, o40] Q S (fuel + 1) listed a w := wpAnyH_ready hr (by simp) (AllReadyH.cons (o := o15) rfl h AllReadyH.nil)
theorem tk16 (hs : Region.noSelect #[o0, o1, o2, o3, o4, o5, o6, o7, o8, o9, o10, o11, o12, o13, o14, o15, o16, o17, o18, o19, o20, o21, o22, o23, o24, o25, o26, o27, o28, o29, o30, o31, o32, o33, o34, o35, o36, o37, o38, o39, o40] = true) (hf : Region.free md #[o0, o1, o2, o3, o4, o5, o6, o7, o8, o9, o10, o11, o12, o13, o14, o15, o16, o17, o18, o19, o20, o21, o22, o23, o24, o25, o26, o27, o28, o29, o30, o31, o32, o33, o34, o35, o36, o37, o38, o39, o40] listed 16 = true) (hr : (Region.ready md #[o0, o1, o2, o3, o4, o5, o6, o7, o8, o9, o10, o11, o12, o13, o14, o15, o16, o17, o18, o19, o20, o21, o22, o23, o24, o25, o26, o27, o28, o29, o30, o31, o32, o33, o34, o35, o36, o37, o38, o39, o40] listed).contains 16 = true) (hQ : ∀ c a w, Q (.panic c) (a.put o16.dst v) w → Q (.panic c) a w) (hy : YieldsIf P #[o0, o1, o2, o3, o4, o5, o6, o7, o8, o9, o10, o11, o12, o13, o14, o15, o16, o17, o18, o19, o20, o21, o22, o23, o24, o25, o26, o27, o28, o29, o30, o31, o32, o33, o34, o35, o36, o37, o38, o39, o40] S o16 v a) (hS : S w) (h : wpAnyH P md #[o0, o1, o2, o3, o4, o5, o6, o7, o8, o9, o10, o11, o12, o13, o14, o15, o16, o17, o18, o19, o20, o21, o22, o23, o24, o25, o26, o27, o28, o29, o30, o31, o32, o33, o34, o35, o36, o37, o38, o39, o40] Q S fuel (listed.setIfInBounds 16 true) (a.put o16.dst v) w) : wpAnyH P md #[o0, o1, o2, o3, o4, o5, o6, o7, o8, o9, o10, o11, o12, o13, o14, o15, o16, o17, o18, o19, o20, o21, o22, o23, o24, o25, o26, o27, o28, o29, o30, o31, o32, o33, o34, o35, o36, o37, o38, o39, o40] Q S (fuel + 1) listed a w := wpAnyH_take (i := 16) (oi := o16) rfl hs hf hr hQ hy hS h
theorem tk17 (hs : Region.noSelect #[o0, o1, o2, o3, o4, o5, o6, o7, o8, o9, o10, o11, o12, o13, o14, o15, o16, o17, o18, o19, o20, o21, o22, o23, o24, o25, o26, o27, o28, o29, o30, o31, o32, o33, o34, o35, o36, o37, o38, o39, o40] = true) (hf : Region.free md #[o0, o1, o2, o3, o4, o5, o6, o7, o8, o9, o10, o11, o12, o13, o14, o15, o16, o17, o18, o19, o20, o21, o22, o23, o24, o25, o26, o27, o28, o29, o30, o31, o32, o33, o34, o35, o36, o37, o38, o39, o40] listed 17 = true) (hr : (Region.ready md #[o0, o1, o2, o3, o4, o5, o6, o7, o8, o9, o10, o11, o12, o13, o14, o15, o16, o17, o18, o19, o20, o21, o22, o23, o24, o25, o26, o27, o28, o29, o30, o31, o32, o33, o34, o35, o36, o37, o38, o39, o40] listed).contains 17 = true) (hQ : ∀ c a w, Q (.panic c) (a.put o17.dst v) w → Q (.panic c) a w) (hy : YieldsIf P #[o0, o1, o2, o3, o4, o5, o6, o7, o8, o9, o10, o11, o12, o13, o14, o15, o16, o17, o18, o19, o20, o21, o22, o23, o24, o25, o26, o27, o28, o29, o30, o31, o32, o33, o34, o35, o36, o37, o38, o39, o40] S o17 v a) (hS : S w) (h : wpAnyH P md #[o0, o1, o2, o3, o4, o5, o6, o7, o8, o9, o10, o11, o12, o13, o14, o15, o16, o17, o18, o19, o20, o21, o22, o23, o24, o25, o26, o27, o28, o29, o30, o31, o32, o33, o34, o35, o36, o37, o38, o39, o40] Q S fuel (listed.setIfInBounds 17 true) (a.put o17.dst v) w) : wpAnyH P md #[o0, o1, o2, o3, o4, o5, o6, o7, o8, o9, o10, o11, o12, o13, o14, o15, o16, o17, o18, o19, o20, o21, o22, o23, o24, o25, o26, o27, o28, o29, o30, o31, o32, o33, o34, o35, o36, o37, o38, o39, o40] Q S (fuel + 1) listed a w := wpAnyH_take (i := 17) (oi := o17) rfl hs hf hr hQ hy hS h
theorem tk18 (hs : Region.noSelect #[o0, o1, o2, o3, o4, o5, o6, o7, o8, o9, o10, o11, o12, o13, o14, o15, o16, o17, o18, o19, o20, o21, o22, o23, o24, o25, o26, o27, o28, o29, o30, o31, o32, o33, o34, o35, o36, o37, o38, o39, o40] = true) (hf : Region.free md #[o0, o1, o2, o3, o4, o5, o6, o7, o8, o9, o10, o11, o12, o13, o14, o15, o16, o17, o18, o19, o20, o21, o22, o23, o24, o25, o26, o27, o28, o29, o30, o31, o32, o33, o34, o35, o36, o37, o38, o39, o40] listed 18 = true) (hr : (Region.ready md #[o0, o1, o2, o3, o4, o5, o6, o7, o8, o9, o10, o11, o12, o13, o14, o15, o16, o17, o18, o19, o20, o21, o22, o23, o24, o25, o26, o27, o28, o29, o30, o31, o32, o33, o34, o35, o36, o37, o38, o39, o40] listed).contains 18 = true) (hQ : ∀ c a w, Q (.panic c) (a.put o18.dst v) w → Q (.panic c) a w) (hy : YieldsIf P #[o0, o1, o2, o3, o4, o5, o6, o7, o8, o9, o10, o11, o12, o13, o14, o15, o16, o17, o18, o19, o20, o21, o22, o23, o24, o25, o26, o27, o28, o29, o30, o31, o32, o33, o34, o35, o36, o37, o38, o39, o40] S o18 v a) (hS : S w) (h : wpAnyH P md #[o0, o1, o2, o3, o4, o5, o6, o7, o8, o9, o10, o11, o12, o13, o14, o15, o16, o17, o18, o19, o20, o21, o22, o23, o24, o25, o26, o27, o28, o29, o30, o31, o32, o33, o34, o35, o36, o37, o38, o39, o40] Q S fuel (listed.setIfInBounds 18 true) (a.put o18.dst v) w) : wpAnyH P md #[o0, o1, o2, o3, o4, o5, o6, o7, o8, o9, o10, o11, o12, o13, o14, o15, o16, o17, o18, o19, o20, o21, o22, o23, o24, o25, o26, o27, o28, o29, o30, o31, o32, o33, o34, o35, o36, o37, o38, o39, o40] Q S (fuel + 1) listed a w := wpAnyH_take (i := 18) (oi := o18) rfl hs hf hr hQ hy hS h
theorem tk19 (hs : Region.noSelect #[o0, o1, o2, o3, o4, o5, o6, o7, o8, o9, o10, o11, o12, o13, o14, o15, o16, o17, o18, o19, o20, o21, o22, o23, o24, o25, o26, o27, o28, o29, o30, o31, o32, o33, o34, o35, o36, o37, o38, o39, o40] = true) (hf : Region.free md #[o0, o1, o2, o3, o4, o5, o6, o7, o8, o9, o10, o11, o12, o13, o14, o15, o16, o17, o18, o19, o20, o21, o22, o23, o24, o25, o26, o27, o28, o29, o30, o31, o32, o33, o34, o35, o36, o37, o38, o39, o40] listed 19 = true) (hr : (Region.ready md #[o0, o1, o2, o3, o4, o5, o6, o7, o8, o9, o10, o11, o12, o13, o14, o15, o16, o17, o18, o19, o20, o21, o22, o23, o24, o25, o26, o27, o28, o29, o30, o31, o32, o33, o34, o35, o36, o37, o38, o39, o40] listed).contains 19 = true) (hQ : ∀ c a w, Q (.panic c) (a.put o19.dst v) w → Q (.panic c) a w) (hy : YieldsIf P #[o0, o1, o2, o3, o4, o5, o6, o7, o8, o9, o10, o11, o12, o13, o14, o15, o16, o17, o18, o19, o20, o21, o22, o23, o24, o25, o26, o27, o28, o29, o30, o31, o32, o33, o34, o35, o36, o37, o38, o39, o40] S o19 v a) (hS : S w) (h : wpAnyH P md #[o0, o1, o2, o3, o4, o5, o6, o7, o8, o9, o10, o11, o12, o13, o14, o15, o16, o17, o18, o19, o20, o21, o22, o23, o24, o25, o26, o27, o28, o29, o30, o31, o32, o33, o34, o35, o36, o37, o38, o39, o40] Q S fuel (listed.setIfInBounds 19 true) (a.put o19.dst v) w) : wpAnyH P md #[o0, o1, o2, o3, o4, o5, o6, o7, o8, o9, o10, o11, o12, o13, o14, o15, o16, o17, o18, o19, o20, o21, o22, o23, o24, o25, o26, o27, o28, o29, o30, o31, o32, o33, o34, o35, o36, o37, o38, o39, o40] Q S (fuel + 1) listed a w := wpAnyH_take (i := 19) (oi := o19) rfl hs hf hr hQ hy hS h
theorem tk20 (hs : Region.noSelect #[o0, o1, o2, o3, o4, o5, o6, o7, o8, o9, o10, o11, o12, o13, o14, o15, o16, o17, o18, o19, o20, o21, o22, o23, o24, o25, o26, o27, o28, o29, o30, o31, o32, o33, o34, o35, o36, o37, o38, o39, o40] = true) (hf : Region.free md #[o0, o1, o2, o3, o4, o5, o6, o7, o8, o9, o10, o11, o12, o13, o14, o15, o16, o17, o18, o19, o20, o21, o22, o23, o24, o25, o26, o27, o28, o29, o30, o31, o32, o33, o34, o35, o36, o37, o38, o39, o40] listed 20 = true) (hr : (Region.ready md #[o0, o1, o2, o3, o4, o5, o6, o7, o8, o9, o10, o11, o12, o13, o14, o15, o16, o17, o18, o19, o20, o21, o22, o23, o24, o25, o26, o27, o28, o29, o30, o31, o32, o33, o34, o35, o36, o37, o38, o39, o40] listed).contains 20 = true) (hQ : ∀ c a w, Q (.panic c) (a.put o20.dst v) w → Q (.panic c) a w) (hy : YieldsIf P #[o0, o1, o2, o3, o4, o5, o6, o7, o8, o9, o10, o11, o12, o13, o14, o15, o16, o17, o18, o19, o20, o21, o22, o23, o24, o25, o26, o27, o28, o29, o30, o31, o32, o33, o34, o35, o36, o37, o38, o39, o40] S o20 v a) (hS : S w) (h : wpAnyH P md #[o0, o1, o2, o3, o4, o5, o6, o7, o8, o9, o10, o11, o12, o13, o14, o15, o16, o17, o18, o19, o20, o21, o22, o23, o24, o25, o26, o27, o28, o29, o30, o31, o32, o33, o34, o35, o36, o37, o38, o39, o40] Q S fuel (listed.setIfInBounds 20 true) (a.put o20.dst v) w) : wpAnyH P md #[o0, o1, o2, o3, o4, o5, o6, o7, o8, o9, o10, o11, o12, o13, o14, o15, o16, o17, o18, o19, o20, o21, o22, o23, o24, o25, o26, o27, o28, o29, o30, o31, o32, o33, o34, o35, o36, o37, o38, o39, o40] Q S (fuel + 1) listed a w := wpAnyH_take (i := 20) (oi := o20) rfl hs hf hr hQ hy hS h
theorem ac20 (hr : Region.ready md #[o0, o1, o2, o3, o4, o5, o6, o7, o8, o9, o10, o11, o12, o13, o14, o15, o16, o17, o18, o19, o20, o21, o22, o23, o24, o25, o26, o27, o28, o29, o30, o31, o32, o33, o34, o35, o36, o37, o38, o39, o40] listed = [20]) (h : ∀ K' : Act → World → Prop, Shut (∀ a w, S w → (S w → wpAnyH P md #[o0, o1, o2, o3, o4, o5, o6, o7, o8, o9, o10, o11, o12, o13, o14, o15, o16, o17, o18, o19, o20, o21, o22, o23, o24, o25, o26, o27, o28, o29, o30, o31, o32, o33, o34, o35, o36, o37, o38, o39, o40] Q S fuel (listed.setIfInBounds 20 true) a w) → K' a w) → if Region.wanted o20 (yielded #[o0, o1, o2, o3, o4, o5, o6, o7, o8, o9, o10, o11, o12, o13, o14, o15, o16, o17, o18, o19, o20, o21, o22, o23, o24, o25, o26, o27, o28, o29, o30, o31, o32, o33, o34, o35, o36, o37, o38, o39, o40] a.tmps) = true then Oper.wp P o20 a w K' Q else K' (a.put o20.dst undef) w) : wpAnyH P md #[o0, o1, o2, o3, o4, o5, o6, o7, o8, o9, o10, o11, o12, o13, o14, o15, o16, o17, o18, o19, o20, o21, o22, o23, o24, o25, o26, o27, o28, o29, o30, o31, o32, o33, o34, o35, o36, o37, o38, o39, o40] Q S (fuel + 1) listed a w := wpAnyH_ready hr (by simp) (AllReadyH.cons (o := o20) rfl h AllReadyH.nil)
theorem tk21 (hs : Region.noSelect #[o0, o1, o2, o3, o4, o5, o6, o7, o8, o9, o10, o11, o12, o13, o14, o15, o16, o17, o18, o19, o20, o21, o22, o23, o24, o25, o26, o27, o28, o29, o30, o31, o32, o33, o34, o35, o36, o37, o38, o39, o40] = true) (hf : Region.free md #[o0, o1, o2, o3, o4, o5, o6, o7, o8, o9, o10, o11, o12, o13, o14, o15, o16, o17, o18, o19, o20, o21, o22, o23, o24, o25, o26, o27, o28, o29, o30, o31, o32, o33, o34, o35, o36, o37, o38, o39, o40] listed 21 = true) (hr : (Region.ready md #[o0, o1, o2, o3, o4, o5, o6, o7, o8, o9, o10, o11, o12, o13, o14, o15, o16, o17, o18, o19, o20, o21, o22, o23, o24, o25, o26, o27, o28, o29, o30, o31, o32, o33, o34, o35, o36, o37, o38, o39, o40] listed).contains 21 = true) (hQ : ∀ c a w, Q (.panic c) (a.put o21.dst v) w → Q (.panic c) a w) (hy : YieldsIf P #[o0, o1, o2, o3, o4, o5, o6, o7, o8, o9, o10, o11, o12, o13, o14, o15, o16, o17, o18, o19, o20, o21, o22, o23, o24, o25, o26, o27, o28, o29, o30, o31, o32, o33, o34, o35, o36, o37, o38, o39, o40] S o21 v a) (hS : S w) (h : wpAnyH P md #[o0, o1, o2, o3, o4, o5, o6, o7, o8, o9, o10, o11, o12, o13, o14, o15, o16, o17, o18, o19, o20, o21, o22, o23, o24, o25, o26, o27, o28, o29, o30, o31, o32, o33, o34, o35, o36, o37, o38, o39, o40] Q S fuel (listed.setIfInBounds 21 true) (a.put o21.dst v) w) : wpAnyH P md #[o0, o1, o2, o3, o4, o5, o6, o7, o8, o9, o10, o11, o12, o13, o14, o15, o16, o17, o18, o19, o20, o21, o22, o23, o24, o25, o26, o27, o28, o29, o30, o31, o32, o33, o34, o35, o36, o37, o38, o39, o40] Q S (fuel + 1) listed a w := wpAnyH_take (i := 21) (oi := o21) rfl hs hf hr hQ hy hS h
theorem tk22 (hs : Region.noSelect #[o0, o1, o2, o3, o4, o5, o6, o7, o8, o9, o10, o11, o12, o13, o14, o15, o16, o17, o18, o19, o20, o21, o22, o23, o24, o25, o26, o27, o28, o29, o30, o31, o32, o33, o34, o35, o36, o37, o38, o39, o40] = true) (hf : Region.free md #[o0, o1, o2, o3, o4, o5, o6, o7, o8, o9, o10, o11, o12, o13, o14, o15, o16, o17, o18, o19, o20, o21, o22, o23, o24, o25, o26, o27, o28, o29, o30, o31, o32, o33, o34, o35, o36, o37, o38, o39, o40] listed 22 = true) (hr : (Region.ready md #[o0, o1, o2, o3, o4, o5, o6, o7, o8, o9, o10, o11, o12, o13, o14, o15, o16, o17, o18, o19, o20, o21, o22, o23, o24, o25, o26, o27, o28, o29, o30, o31, o32, o33, o34, o35, o36, o37, o38, o39, o40] listed).contains 22 = true) (hQ : ∀ c a w, Q (.panic c) (a.put o22.dst v) w → Q (.panic c) a w) (hy : YieldsIf P #[o0, o1, o2, o3, o4, o5, o6, o7, o8, o9, o10, o11, o12, o13, o14, o15, o16, o17, o18, o19, o20, o21, o22, o23, o24, o25, o26, o27, o28, o29, o30, o31, o32, o33, o34, o35, o36, o37, o38, o39, o40] S o22 v a) (hS : S w) (h : wpAnyH P md #[o0, o1, o2, o3, o4, o5, o6, o7, o8, o9, o10, o11, o12, o13, o14, o15, o16, o17, o18, o19, o20, o21, o22, o23, o24, o25, o26, o27, o28, o29, o30, o31, o32, o33, o34, o35, o36, o37, o38, o39, o40] Q S fuel (listed.setIfInBounds 22 true) (a.put o22.dst v) w) : wpAnyH P md #[o0, o1, o2, o3, o4, o5, o6, o7, o8, o9, o10, o11, o12, o13, o14, o15, o16, o17, o18, o19, o20, o21, o22, o23, o24, o25, o26, o27, o28, o29, o30, o31, o32, o33, o34, o35, o36, o37, o38, o39, o40] Q S (fuel + 1) listed a w := wpAnyH_take (i := 22) (oi := o22) rfl hs hf hr hQ hy hS h
theorem tk23 (hs : Region.noSelect #[o0, o1, o2, o3, o4, o5, o6, o7, o8, o9, o10, o11, o12, o13, o14, o15, o16, o17, o18, o19, o20, o21, o22, o23, o24, o25, o26, o27, o28, o29, o30, o31, o32, o33, o34, o35, o36, o37, o38, o39, o40] = true) (hf : Region.free md #[o0, o1, o2, o3, o4, o5, o6, o7, o8, o9, o10, o11, o12, o13, o14, o15, o16, o17, o18, o19, o20, o21, o22, o23, o24, o25, o26, o27, o28, o29, o30, o31, o32, o33, o34, o35, o36, o37, o38, o39, o40] listed 23 = true) (hr : (Region.ready md #[o0, o1, o2, o3, o4, o5, o6, o7, o8, o9, o10, o11, o12, o13, o14, o15, o16, o17, o18, o19, o20, o21, o22, o23, o24, o25, o26, o27, o28, o29, o30, o31, o32, o33, o34, o35, o36, o37, o38, o39, o40] listed).contains 23 = true) (hQ : ∀ c a w, Q (.panic c) (a.put o23.dst v) w → Q (.panic c) a w) (hy : YieldsIf P #[o0, o1, o2, o3, o4, o5, o6, o7, o8, o9, o10, o11, o12, o13, o14, o15, o16, o17, o18, o19, o20, o21, o22, o23, o24, o25, o26, o27, o28, o29, o30, o31, o32, o33, o34, o35, o36, o37, o38, o39, o40] S o23 v a) (hS : S w) (h : wpAnyH P md #[o0, o1, o2, o3, o4, o5, o6, o7, o8, o9, o10, o11, o12, o13, o14, o15, o16, o17, o18, o19, o20, o21, o22, o23, o24, o25, o26, o27, o28, o29, o30, o31, o32, o33, o34, o35, o36, o37, o38, o39, o40] Q S fuel (listed.setIfInBounds 23 true) (a.put o23.dst v) w) : wpAnyH P md #[o0, o1, o2, o3, o4, o5, o6, o7, o8, o9, o10, o11, o12, o13, o14, o15, o16, o17, o18, o19, o20, o21, o22, o23, o24, o25, o26, o27, o28, o29, o30, o31, o32, o33, o34, o35, o36, o37, o38, o39, o40] Q S (fuel + 1) listed a w := wpAnyH_take (i := 23) (oi := o23) rfl hs hf hr hQ hy hS h
theorem tk24 (hs : Region.noSelect #[o0, o1, o2, o3, o4, o5, o6, o7, o8, o9, o10, o11, o12, o13, o14, o15, o16, o17, o18, o19, o20, o21, o22, o23, o24, o25, o26, o27, o28, o29, o30, o31, o32, o33, o34, o35, o36, o37, o38, o39, o40] = true) (hf : Region.free md #[o0, o1, o2, o3, o4, o5, o6, o7, o8, o9, o10, o11, o12, o13, o14, o15, o16, o17, o18, o19, o20, o21, o22, o23, o24, o25, o26, o27, o28, o29, o30, o31, o32, o33, o34, o35, o36, o37, o38, o39, o40] listed 24 = true) (hr : (Region.ready md #[o0, o1, o2, o3, o4, o5, o6, o7, o8, o9, o10, o11, o12, o13, o14, o15, o16, o17, o18, o19, o20, o21, o22, o23, o24, o25, o26, o27, o28, o29, o30, o31, o32, o33, o34, o35, o36, o37, o38, o39, o40] listed).contains 24 = true) (hQ : ∀ c a w, Q (.panic c) (a.put o24.dst v) w → Q (.panic c) a w) (hy : YieldsIf P #[o0, o1, o2, o3, o4, o5, o6, o7, o8, o9, o10, o11, o12, o13, o14, o15, o16, o17, o18, o19, o20, o21, o22, o23, o24, o25, o26, o27, o28, o29, o30, o31, o32, o33, o34, o35, o36, o37, o38, o39, o40] S o24 v a) (hS : S w) (h : wpAnyH P md #[o0, o1, o2, o3, o4, o5, o6, o7, o8, o9, o10, o11, o12, o13, o14, o15, o16, o17, o18, o19, o20, o21, o22, o23, o24, o25, o26, o27, o28, o29, o30, o31, o32, o33, o34, o35, o36, o37, o38, o39, o40] Q S fuel (listed.setIfInBounds 24 true) (a.put o24.dst v) w) : wpAnyH P md #[o0, o1, o2, o3, o4, o5, o6, o7, o8, o9, o10, o11, o12, o13, o14, o15, o16, o17, o18, o19, o20, o21, o22, o23, o24, o25, o26, o27, o28, o29, o30, o31, o32, o33, o34, o35, o36, o37, o38, o39, o40] Q S (fuel + 1) listed a w := wpAnyH_take (i := 24) (oi := o24) rfl hs hf hr hQ hy hS h
theorem tk25 (hs : Region.noSelect #[o0, o1, o2, o3, o4, o5, o6, o7, o8, o9, o10, o11, o12, o13, o14, o15, o16, o17, o18, o19, o20, o21, o22, o23, o24, o25, o26, o27, o28, o29, o30, o31, o32, o33, o34, o35, o36, o37, o38, o39, o40] = true) (hf : Region.free md #[o0, o1, o2, o3, o4, o5, o6, o7, o8, o9, o10, o11, o12, o13, o14, o15, o16, o17, o18, o19, o20, o21, o22, o23, o24, o25, o26, o27, o28, o29, o30, o31, o32, o33, o34, o35, o36, o37, o38, o39, o40] listed 25 = true) (hr : (Region.ready md #[o0, o1, o2, o3, o4, o5, o6, o7, o8, o9, o10, o11, o12, o13, o14, o15, o16, o17, o18, o19, o20, o21, o22, o23, o24, o25, o26, o27, o28, o29, o30, o31, o32, o33, o34, o35, o36, o37, o38, o39, o40] listed).contains 25 = true) (hQ : ∀ c a w, Q (.panic c) (a.put o25.dst v) w → Q (.panic c) a w) (hy : YieldsIf P #[o0, o1, o2, o3, o4, o5, o6, o7, o8, o9, o10, o11, o12, o13, o14, o15, o16, o17, o18, o19, o20, o21, o22, o23, o24, o25, o26, o27, o28, o29, o30, o31, o32, o33, o34, o35, o36, o37, o38, o39, o40] S o25 v a) (hS : S w) (h : wpAnyH P md #[o0, o1, o2, o3, o4, o5, o6, o7, o8, o9, o10, o11, o12, o13, o14, o15, o16, o17, o18, o19, o20, o21, o22, o23, o24, o25, o26, o27, o28, o29, o30, o31, o32, o33, o34, o35, o36, o37, o38, o39, o40] Q S fuel (listed.setIfInBounds 25 true) (a.put o25.dst v) w) : wpAnyH P md #[o0, o1, o2, o3, o4, o5, o6, o7, o8, o9, o10, o11, o12, o13, o14, o15, o16, o17, o18, o19, o20, o21, o22, o23, o24, o25, o26, o27, o28, o29, o30, o31, o32, o33, o34, o35, o36, o37, o38, o39, o40] Q S (fuel + 1) listed a w := wpAnyH_take (i := 25) (oi := o25) rfl hs hf hr hQ hy hS h
theorem tk26 (hs : Region.noSelect #[o0, o1, o2, o3, o4, o5, o6, o7, o8, o9, o10, o11, o12, o13, o14, o15, o16, o17, o18, o19, o20, o21, o22, o23, o24, o25, o26, o27, o28, o29, o30, o31, o32, o33, o34, o35, o36, o37, o38, o39, o40] = true) (hf : Region.free md #[o0, o1, o2, o3, o4, o5, o6, o7, o8, o9, o10, o11, o12, o13, o14, o15, o16, o17, o18, o19, o20, o21, o22, o23, o24, o25, o26, o27, o28, o29, o30, o31, o32, o33, o34, o35, o36, o37, o38, o39, o40] listed 26 = true) (hr : (Region.ready md #[o0, o1, o2, o3, o4, o5, o6, o7, o8, o9, o10, o11, o12, o13, o14, o15, o16, o17, o18, o19, o20, o21, o22, o23, o24, o25, o26, o27, o28, o29, o30, o31, o32, o33, o34, o35, o36, o37, o38, o39, o40] listed).contains 26 = true) (hQ : ∀ c a w, Q (.panic c) (a.put o26.dst v) w → Q (.panic c) a w) (hy : YieldsIf P #[o0, o1, o2, o3, o4, o5, o6, o7, o8, o9, o10, o11, o12, o13, o14, o15, o16, o17, o18, o19, o20, o21, o22, o23, o24, o25, o26, o27, o28, o29, o30, o31, o32, o33, o34, o35, o36, o37, o38, o39, o40] S o26 v a) (hS : S w) (h : wpAnyH P md #[o0, o1, o2, o3, o4, o5, o6, o7, o8, o9, o10, o11, o12, o13, o14, o15, o16, o17, o18, o19, o20, o21, o22, o23, o24, o25, o26, o27, o28, o29, o30, o31, o32, o33, o34, o35, o36, o37, o38, o39, o40] Q S fuel (listed.setIfInBounds 26 true) (a.put o26.dst v) w) : wpAnyH P md #[o0, o1, o2, o3, o4, o5, o6, o7, o8, o9, o10, o11, o12, o13, o14, o15, o16, o17, o18, o19, o20, o21, o22, o23, o24, o25, o26, o27, o28, o29, o30, o31, o32, o33, o34, o35, o36, o37, o38, o39, o40] Q S (fuel + 1) listed a w := wpAnyH_take (i := 26) (oi := o26) rfl hs hf hr hQ hy hS h
theorem tk27 (hs : Region.noSelect #[o0, o1, o2, o3, o4, o5, o6, o7, o8, o9, o10, o11, o12, o13, o14, o15, o16, o17, o18, o19, o20, o21, o22, o23, o24, o25, o26, o27, o28, o29, o30, o31, o32, o33, o34, o35, o36, o37, o38, o39, o40] = true) (hf : Region.free md #[o0, o1, o2, o3, o4, o5, o6, o7, o8, o9, o10, o11, o12, o13, o14, o15, o16, o17, o18, o19, o20, o21, o22, o23, o24, o25, o26, o27, o28, o29, o30, o31, o32, o33, o34, o35, o36, o37, o38, o39, o40] listed 27 = true) (hr : (Region.ready md #[o0, o1, o2, o3, o4, o5, o6, o7, o8, o9, o10, o11, o12, o13, o14, o15, o16, o17, o18, o19, o20, o21, o22, o23, o24, o25, o26, o27, o28, o29, o30, o31, o32, o33, o34, o35, o36, o37, o38, o39, o40] listed).contains 27 = true) (hQ : ∀ c a w, Q (.panic c) (a.put o27.dst v) w → Q (.panic c) a w) (hy : YieldsIf P #[o0, o1, o2, o3, o4, o5, o6, o7, o8, o9, o10, o11, o12, o13, o14, o15, o16, o17, o18, o19, o20, o21, o22, o23, o24, o25, o26, o27, o28, o29, o30, o31, o32, o33, o34, o35, o36, o37, o38, o39, o40] S o27 v a) (hS : S w) (h : wpAnyH P md #[o0, o1, o2, o3, o4, o5, o6, o7, o8, o9, o10, o11, o12, o13, o14, o15, o16, o17, o18, o19, o20, o21, o22, o23, o24, o25, o26, o27, o28, o29, o30, o31, o32, o33, o34, o35, o36, o37, o38, o39, o40] Q S fuel (listed.setIfInBounds 27 true) (a.put o27.dst v) w) : wpAnyH P md #[o0, o1, o2, o3, o4, o5, o6, o7, o8, o9, o10, o11, o12, o13, o14, o15, o16, o17, o18, o19, o20, o21, o22, o23, o24, o25, o26, o27, o28, o29, o30, o31, o32, o33, o34, o35, o36, o37, o38, o39, o40] Q S (fuel + 1) listed a w := wpAnyH_take (i := 27) (oi := o27) rfl hs hf hr hQ hy hS h
theorem ac28 (hr : Region.ready md #[o0, o1, o2, o3, o4, o5, o6, o7, o8, o9, o10, o11, o12, o13, o14, o15, o16, o17, o18, o19, o20, o21, o22, o23, o24, o25, o26, o27, o28, o29, o30, o31, o32, o33, o34, o35, o36, o37, o38, o39, o40] listed = [28]) (h : ∀ K' : Act → World → Prop, Shut (∀ a w, S w → (S w → wpAnyH P md #[o0, o1, o2, o3, o4, o5, o6, o7, o8, o9, o10, o11, o12, o13, o14, o15, o16, o17, o18, o19, o20, o21, o22, o23, o24, o25, o26, o27, o28, o29, o30, o31, o32, o33, o34, o35, o36, o37, o38, o39, o40] Q S fuel (listed.setIfInBounds 28 true) a w) → K' a w) → if Region.wanted o28 (yielded #[o0, o1, o2, o3, o4, o5, o6, o7, o8, o9, o10, o11, o12, o13, o14, o15, o16, o17, o18, o19, o20, o21, o22, o23, o24, o25, o26, o27, o28, o29, o30, o31, o32, o33, o34, o35, o36, o37, o38, o39, o40] a.tmps) = true then Oper.wp P o28 a w K' Q else K' (a.put o28.dst undef) w) : wpAnyH P md #[o0, o1, o2, o3, o4, o5, o6, o7, o8, o9, o10, o11, o12, o13, o14, o15, o16, o17, o18, o19, o20, o21, o22, o23, o24, o25, o26, o27, o28, o29, o30, o31, o32, o33, o34, o35, o36, o37, o38, o39, o40] Q S (fuel + 1) listed a w := wpAnyH_ready hr (by simp) (AllReadyH.cons (o := o28) rfl h AllReadyH.nil)
theorem tk29 (hs : Region.noSelect #[o0, o1, o2, o3, o4, o5, o6, o7, o8, o9, o10, o11, o12, o13, o14, o15, o16, o17, o18, o19, o20, o21, o22, o23, o24, o25, o26, o27, o28, o29, o30, o31, o32, o33, o34, o35, o36, o37, o38, o39, o40] = true) (hf : Region.free md #[o0, o1, o2, o3, o4, o5, o6, o7, o8, o9, o10, o11, o12, o13, o14, o15, o16, o17, o18, o19, o20, o21, o22, o23, o24, o25, o26, o27, o28, o29, o30, o31, o32, o33, o34, o35, o36, o37, o38, o39, o40] listed 29 = true) (hr : (Region.ready md #[o0, o1, o2, o3, o4, o5, o6, o7, o8, o9, o10, o11, o12, o13, o14, o15, o16, o17, o18, o19, o20, o21, o22, o23, o24, o25, o26, o27, o28, o29, o30, o31, o32, o33, o34, o35, o36, o37, o38, o39, o40] listed).contains 29 = true) (hQ : ∀ c a w, Q (.panic c) (a.put o29.dst v) w → Q (.panic c) a w) (hy : YieldsIf P #[o0, o1, o2, o3, o4, o5, o6, o7, o8, o9, o10, o11, o12, o13, o14, o15, o16, o17, o18, o19, o20, o21, o22, o23, o24, o25, o26, o27, o28, o29, o30, o31, o32, o33, o34, o35, o36, o37, o38, o39, o40] S o29 v a) (hS : S w) (h : wpAnyH P md #[o0, o1, o2, o3, o4, o5, o6, o7, o8, o9, o10, o11, o12, o13, o14, o15, o16, o17, o18, o19, o20, o21, o22, o23, o24, o25, o26, o27, o28, o29, o30, o31, o32, o33, o34, o35, o36, o37, o38, o39, o40] Q S fuel (listed.setIfInBounds 29 true) (a.put o29.dst v) w) : wpAnyH P md #[o0, o1, o2, o3, o4, o5, o6, o7, o8, o9, o10, o11, o12, o13, o14, o15, o16, o17, o18, o19, o20, o21, o22, o23, o24, o25, o26, o27, o28, o29, o30, o31, o32, o33, o34, o35, o36, o37, o38, o39, o40] Q S (fuel + 1) listed a w := wpAnyH_take (i := 29) (oi := o29) rfl hs hf hr hQ hy hS h
theorem tk30 (hs : Region.noSelect #[o0, o1, o2, o3, o4, o5, o6, o7, o8, o9, o10, o11, o12, o13, o14, o15, o16, o17, o18, o19, o20, o21, o22, o23, o24, o25, o26, o27, o28, o29, o30, o31, o32, o33, o34, o35, o36, o37, o38, o39, o40] = true) (hf : Region.free md #[o0, o1, o2, o3, o4, o5, o6, o7, o8, o9, o10, o11, o12, o13, o14, o15, o16, o17, o18, o19, o20, o21, o22, o23, o24, o25, o26, o27, o28, o29, o30, o31, o32, o33, o34, o35, o36, o37, o38, o39, o40] listed 30 = true) (hr : (Region.ready md #[o0, o1, o2, o3, o4, o5, o6, o7, o8, o9, o10, o11, o12, o13, o14, o15, o16, o17, o18, o19, o20, o21, o22, o23, o24, o25, o26, o27, o28, o29, o30, o31, o32, o33, o34, o35, o36, o37, o38, o39, o40] listed).contains 30 = true) (hQ : ∀ c a w, Q (.panic c) (a.put o30.dst v) w → Q (.panic c) a w) (hy : YieldsIf P #[o0, o1, o2, o3, o4, o5, o6, o7, o8, o9, o10, o11, o12, o13, o14, o15, o16, o17, o18, o19, o20, o21, o22, o23, o24, o25, o26, o27, o28, o29, o30, o31, o32, o33, o34, o35, o36, o37, o38, o39, o40] S o30 v a) (hS : S w) (h : wpAnyH P md #[o0, o1, o2, o3, o4, o5, o6, o7, o8, o9, o10, o11, o12, o13, o14, o15, o16, o17, o18, o19, o20, o21, o22, o23, o24, o25, o26, o27, o28, o29, o30, o31, o32, o33, o34, o35, o36, o37, o38, o39, o40] Q S fuel (listed.setIfInBounds 30 true) (a.put o30.dst v) w) : wpAnyH P md #[o0, o1, o2, o3, o4, o5, o6, o7, o8, o9, o10, o11, o12, o13, o14, o15, o16, o17, o18, o19, o20, o21, o22, o23, o24, o25, o26, o27, o28, o29, o30, o31, o32, o33, o34, o35, o36, o37, o38, o39, o40] Q S (fuel + 1) listed a w := wpAnyH_take (i := 30) (oi := o30) rfl hs hf hr hQ hy hS h
theorem tk31 (hs : Region.noSelect #[o0, o1, o2, o3, o4, o5, o6, o7, o8, o9, o10, o11, o12, o13, o14, o15, o16, o17, o18, o19, o20, o21, o22, o23, o24, o25, o26, o27, o28, o29, o30, o31, o32, o33, o34, o35, o36, o37, o38, o39, o40] = true) (hf : Region.free md #[o0, o1, o2, o3, o4, o5, o6, o7, o8, o9, o10, o11, o12, o13, o14, o15, o16, o17, o18, o19, o20, o21, o22, o23, o24, o25, o26, o27, o28, o29, o30, o31, o32, o33, o34, o35, o36, o37, o38, o39, o40] listed 31 = true) (hr : (Region.ready md #[o0, o1, o2, o3, o4, o5, o6, o7, o8, o9, o10, o11, o12, o13, o14, o15, o16, o17, o18, o19, o20, o21, o22, o23, o24, o25, o26, o27, o28, o29, o30, o31, o32, o33, o34, o35, o36, o37, o38, o39, o40] listed).contains 31 = true) (hQ : ∀ c a w, Q (.panic c) (a.put o31.dst v) w → Q (.panic c) a w) (hy : YieldsIf P #[o0, o1, o2, o3, o4, o5, o6, o7, o8, o9, o10, o11, o12, o13, o14, o15, o16, o17, o18, o19, o20, o21, o22, o23, o24, o25, o26, o27, o28, o29, o30, o31, o32, o33, o34, o35, o36, o37, o38, o39, o40] S o31 v a) (hS : S w) (h : wpAnyH P md #[o0, o1, o2, o3, o4, o5, o6, o7, o8, o9, o10, o11, o12, o13, o14, o15, o16, o17, o18, o19, o20, o21, o22, o23, o24, o25, o26, o27, o28, o29, o30, o31, o32, o33, o34, o35, o36, o37, o38, o39, o40] Q S fuel (listed.setIfInBounds 31 true) (a.put o31.dst v) w) : wpAnyH P md #[o0, o1, o2, o3, o4, o5, o6, o7, o8, o9, o10, o11, o12, o13, o14, o15, o16, o17, o18, o19, o20, o21, o22, o23, o24, o25, o26, o27, o28, o29, o30, o31, o32, o33, o34, o35, o36, o37, o38, o39, o40] Q S (fuel + 1) listed a w := wpAnyH_take (i := 31) (oi := o31) rfl hs hf hr hQ hy hS h
theorem tk32 (hs : Region.noSelect #[o0, o1, o2, o3, o4, o5, o6, o7, o8, o9, o10, o11, o12, o13, o14, o15, o16, o17, o18, o19, o20, o21, o22, o23, o24, o25, o26, o27, o28, o29, o30, o31, o32, o33, o34, o35, o36, o37, o38, o39, o40] = true) (hf : Region.free md #[o0, o1, o2, o3, o4, o5, o6, o7, o8, o9, o10, o11, o12, o13, o14, o15, o16, o17, o18, o19, o20, o21, o22, o23, o24, o25, o26, o27, o28, o29, o30, o31, o32, o33, o34, o35, o36, o37, o38, o39, o40] listed 32 = true) (hr : (Region.ready md #[o0, o1, o2, o3, o4, o5, o6, o7, o8, o9, o10, o11, o12, o13, o14, o15, o16, o17, o18, o19, o20, o21, o22, o23, o24, o25, o26, o27, o28, o29, o30, o31, o32, o33, o34, o35, o36, o37, o38, o39, o40] listed).contains 32 = true) (hQ : ∀ c a w, Q (.panic c) (a.put o32.dst v) w → Q (.panic c) a w) (hy : YieldsIf P #[o0, o1, o2, o3, o4, o5, o6, o7, o8, o9, o10, o11, o12, o13, o14, o15, o16, o17, o18, o19, o20, o21, o22, o23, o24, o25, o26, o27, o28, o29, o30, o31, o32, o33, o34, o35, o36, o37, o38, o39, o40] S o32 v a) (hS : S w) (h : wpAnyH P md #[o0, o1, o2, o3, o4, o5, o6, o7, o8, o9, o10, o11, o12, o13, o14, o15, o16, o17, o18, o19, o20, o21, o22, o23, o24, o25, o26, o27, o28, o29, o30, o31, o32, o33, o34, o35, o36, o37, o38, o39, o40] Q S fuel (listed.setIfInBounds 32 true) (a.put o32.dst v) w) : wpAnyH P md #[o0, o1, o2, o3, o4, o5, o6, o7, o8, o9, o10, o11, o12, o13, o14, o15, o16, o17, o18, o19, o20, o21, o22, o23, o24, o25, o26, o27, o28, o29, o30, o31, o32, o33, o34, o35, o36, o37, o38, o39, o40] Q S (fuel + 1) listed a w := wpAnyH_take (i := 32) (oi := o32) rfl hs hf hr hQ hy hS h
theorem tk33 (hs : Region.noSelect #[o0, o1, o2, o3, o4, o5, o6, o7, o8, o9, o10, o11, o12, o13, o14, o15, o16, o17, o18, o19, o20, o21, o22, o23, o24, o25, o26, o27, o28, o29, o30, o31, o32, o33, o34, o35, o36, o37, o38, o39, o40] = true) (hf : Region.free md #[o0, o1, o2, o3, o4, o5, o6, o7, o8, o9, o10, o11, o12, o13, o14, o15, o16, o17, o18, o19, o20, o21, o22, o23, o24, o25, o26, o27, o28, o29, o30, o31, o32, o33, o34, o35, o36, o37, o38, o39, o40] listed 33 = true) (hr : (Region.ready md #[o0, o1, o2, o3, o4, o5, o6, o7, o8, o9, o10, o11, o12, o13, o14, o15, o16, o17, o18, o19, o20, o21, o22, o23, o24, o25, o26, o27, o28, o29, o30, o31, o32, o33, o34, o35, o36, o37, o38, o39, o40] listed).contains 33 = true) (hQ : ∀ c a w, Q (.panic c) (a.put o33.dst v) w → Q (.panic c) a w) (hy : YieldsIf P #[o0, o1, o2, o3, o4, o5, o6, o7, o8, o9, o10, o11, o12, o13, o14, o15, o16, o17, o18, o19, o20, o21, o22, o23, o24, o25, o26, o27, o28, o29, o30, o31, o32, o33, o34, o35, o36, o37, o38, o39, o40] S o33 v a) (hS : S w) (h : wpAnyH P md #[o0, o1, o2, o3, o4, o5, o6, o7, o8, o9, o10, o11, o12, o13, o14, o15, o16, o17, o18, o19, o20, o21, o22, o23, o24, o25, o26, o27, o28, o29, o30, o31, o32, o33, o34, o35, o36, o37, o38, o39, o40] Q S fuel (listed.setIfInBounds 33 true) (a.put o33.dst v) w) : wpAnyH P md #[o0, o1, o2, o3, o4, o5, o6, o7, o8, o9, o10, o11, o12, o13, o14, o15, o16, o17, o18, o19, o20, o21, o22, o23, o24, o25, o26, o27, o28, o29, o30, o31, o32, o33, o34, o35, o36, o37, o38, o39, o40] Q S (fuel + 1) listed a w := wpAnyH_take (i := 33) (oi := o33) rfl hs hf hr hQ hy hS h
theorem tk34 (hs : Region.noSelect #[o0, o1, o2, o3, o4, o5, o6, o7, o8, o9, o10, o11, o12, o13, o14, o15, o16, o17, o18, o19, o20, o21, o22, o23, o24, o25, o26, o27, o28, o29, o30, o31, o32, o33, o34, o35, o36, o37, o38, o39, o40] = true) (hf : Region.free md #[o0, o1, o2, o3, o4, o5, o6, o7, o8, o9, o10, o11, o12, o13, o14, o15, o16, o17, o18, o19, o20, o21, o22, o23, o24, o25, o26, o27, o28, o29, o30, o31, o32, o33, o34, o35, o36, o37, o38, o39, o40] listed 34 = true) (hr : (Region.ready md #[o0, o1, o2, o3, o4, o5, o6, o7, o8, o9, o10, o11, o12, o13, o14, o15, o16, o17, o18, o19, o20, o21, o22, o23, o24, o25, o26, o27, o28, o29, o30, o31, o32, o33, o34, o35, o36, o37, o38, o39, o40] listed).contains 34 = true) (hQ : ∀ c a w, Q (.panic c) (a.put o34.dst v) w → Q (.panic c) a w) (hy : YieldsIf P #[o0, o1, o2, o3, o4, o5, o6, o7, o8, o9, o10, o11, o12, o13, o14, o15, o16, o17, o18, o19, o20, o21, o22, o23, o24, o25, o26, o27, o28, o29, o30, o31, o32, o33, o34, o35, o36, o37, o38, o39, o40] S o34 v a) (hS : S w) (h : wpAnyH P md #[o0, o1, o2, o3, o4, o5, o6, o7, o8, o9, o10, o11, o12, o13, o14, o15, o16, o17, o18, o19, o20, o21, o22, o23, o24, o25, o26, o27, o28, o29, o30, o31, o32, o33, o34, o35, o36, o37, o38, o39, o40] Q S fuel (listed.setIfInBounds 34 true) (a.put o34.dst v) w) : wpAnyH P md #[o0, o1, o2, o3, o4, o5, o6, o7, o8, o9, o10, o11, o12, o13, o14, o15, o16, o17, o18, o19, o20, o21, o22, o23, o24, o25, o26, o27, o28, o29, o30, o31, o32, o33, o34, o35, o36, o37, o38, o39, o40] Q S (fuel + 1) listed a w := wpAnyH_take (i := 34) (oi := o34) rfl hs hf hr hQ hy hS h
theorem tk35 (hs : Region.noSelect #[o0, o1, o2, o3, o4, o5, o6, o7, o8, o9, o10, o11, o12, o13, o14, o15, o16, o17, o18, o19, o20, o21, o22, o23, o24, o25, o26, o27, o28, o29, o30, o31, o32, o33, o34, o35, o36, o37, o38, o39, o40] = true) (hf : Region.free md #[o0, o1, o2, o3, o4, o5, o6, o7, o8, o9, o10, o11, o12, o13, o14, o15, o16, o17, o18, o19, o20, o21, o22, o23, o24, o25, o26, o27, o28, o29, o30, o31, o32, o33, o34, o35, o36, o37, o38, o39, o40] listed 35 = true) (hr : (Region.ready md #[o0, o1, o2, o3, o4, o5, o6, o7, o8, o9, o10, o11, o12, o13, o14, o15, o16, o17, o18, o19, o20, o21, o22, o23, o24, o25, o26, o27, o28, o29, o30, o31, o32, o33, o34, o35, o36, o37, o38, o39, o40] listed).contains 35 = true) (hQ : ∀ c a w, Q (.panic c) (a.put o35.dst v) w → Q (.panic c) a w) (hy : YieldsIf P #[o0, o1, o2, o3, o4, o5, o6, o7, o8, o9, o10, o11, o12, o13, o14, o15, o16, o17, o18, o19, o20, o21, o22, o23, o24, o25, o26, o27, o28, o29, o30, o31, o32, o33, o34, o35, o36, o37, o38, o39, o40] S o35 v a) (hS : S w) (h : wpAnyH P md #[o0, o1, o2, o3, o4, o5, o6, o7, o8, o9, o10, o11, o12, o13, o14, o15, o16, o17, o18, o19, o20, o21, o22, o23, o24, o25, o26, o27, o28, o29, o30, o31, o32, o33, o34, o35, o36, o37, o38, o39, o40] Q S fuel (listed.setIfInBounds 35 true) (a.put o35.dst v) w) : wpAnyH P md #[o0, o1, o2, o3, o4, o5, o6, o7, o8, o9, o10, o11, o12, o13, o14, o15, o16, o17, o18, o19, o20, o21, o22, o23, o24, o25, o26, o27, o28, o29, o30, o31, o32, o33, o34, o35, o36, o37, o38, o39, o40] Q S (fuel + 1) listed a w := wpAnyH_take (i := 35) (oi := o35) rfl hs hf hr hQ hy hS h
theorem tk36 (hs : Region.noSelect #[o0, o1, o2, o3, o4, o5, o6, o7, o8, o9, o10, o11, o12, o13, o14, o15, o16, o17, o18, o19, o20, o21, o22, o23, o24, o25, o26, o27, o28, o29, o30, o31, o32, o33, o34, o35, o36, o37, o38, o39, o40] = true) (hf : Region.free md #[o0, o1, o2, o3, o4, o5, o6, o7, o8, o9, o10, o11, o12, o13, o14, o15, o16, o17, o18, o19, o20, o21, o22, o23, o24, o25, o26, o27, o28, o29, o30, o31, o32, o33, o34, o35, o36, o37, o38, o39, o40] listed 36 = true) (hr : (Region.ready md #[o0, o1, o2, o3, o4, o5, o6, o7, o8, o9, o10, o11, o12, o13, o14, o15, o16, o17, o18, o19, o20, o21, o22, o23, o24, o25, o26, o27, o28, o29, o30, o31, o32, o33, o34, o35, o36, o37, o38, o39, o40] listed).contains 36 = true) (hQ : ∀ c a w, Q (.panic c) (a.put o36.dst v) w → Q (.panic c) a w) (hy : YieldsIf P #[o0, o1, o2, o3, o4, o5, o6, o7, o8, o9, o10, o11, o12, o13, o14, o15, o16, o17, o18, o19, o20, o21, o22, o23, o24, o25, o26, o27, o28, o29, o30, o31, o32, o33, o34, o35, o36, o37, o38, o39, o40] S o36 v a) (hS : S w) (h : wpAnyH P md #[o0, o1, o2, o3, o4, o5, o6, o7, o8, o9, o10, o11, o12, o13, o14, o15, o16, o17, o18, o19, o20, o21, o22, o23, o24, o25, o26, o27, o28, o29, o30, o31, o32, o33, o34, o35, o36, o37, o38, o39, o40] Q S fuel (listed.setIfInBounds 36 true) (a.put o36.dst v) w) : wpAnyH P md #[o0, o1, o2, o3, o4, o5, o6, o7, o8, o9, o10, o11, o12, o13, o14, o15, o16, o17, o18, o19, o20, o21, o22, o23, o24, o25, o26, o27, o28, o29, o30, o31, o32, o33, o34, o35, o36, o37, o38, o39, o40] Q S (fuel + 1) listed a w := wpAnyH_take (i := 36) (oi := o36) rfl hs hf hr hQ hy hS h
theorem tk37 (hs : Region.noSelect #[o0, o1, o2, o3, o4, o5, o6, o7, o8, o9, o10, o11, o12, o13, o14, o15, o16, o17, o18, o19, o20, o21, o22, o23, o24, o25, o26, o27, o28, o29, o30, o31, o32, o33, o34, o35, o36, o37, o38, o39, o40] = true) (hf : Region.free md #[o0, o1, o2, o3, o4, o5, o6, o7, o8, o9, o10, o11, o12, o13, o14, o15, o16, o17, o18, o19, o20, o21, o22, o23, o24, o25, o26, o27, o28, o29, o30, o31, o32, o33, o34, o35, o36, o37, o38, o39, o40] listed 37 = true) (hr : (Region.ready md #[o0, o1, o2, o3, o4, o5, o6, o7, o8, o9, o10, o11, o12, o13, o14, o15, o16, o17, o18, o19, o20, o21, o22, o23, o24, o25, o26, o27, o28, o29, o30, o31, o32, o33, o34, o35, o36, o37, o38, o39, o40] listed).contains 37 = true) (hQ : ∀ c a w, Q (.panic c) (a.put o37.dst v) w → Q (.panic c) a w) (hy : YieldsIf P #[o0, o1, o2, o3, o4, o5, o6, o7, o8, o9, o10, o11, o12, o13, o14, o15, o16, o17, o18, o19, o20, o21, o22, o23, o24, o25, o26, o27, o28, o29, o30, o31, o32, o33, o34, o35, o36, o37, o38, o39, o40] S o37 v a) (hS : S w) (h : wpAnyH P md #[o0, o1, o2, o3, o4, o5, o6, o7, o8, o9, o10, o11, o12, o13, o14, o15, o16, o17, o18, o19, o20, o21, o22, o23, o24, o25, o26, o27, o28, o29, o30, o31, o32, o33, o34, o35, o36, o37, o38, o39, o40] Q S fuel (listed.setIfInBounds 37 true) (a.put o37.dst v) w) : wpAnyH P md #[o0, o1, o2, o3, o4, o5, o6, o7, o8, o9, o10, o11, o12, o13, o14, o15, o16, o17, o18, o19, o20, o21, o22, o23, o24, o25, o26, o27, o28, o29, o30, o31, o32, o33, o34, o35, o36, o37, o38, o39, o40] Q S (fuel + 1) listed a w := wpAnyH_take (i := 37) (oi := o37) rfl hs hf hr hQ hy hS h
theorem tk38 (hs : Region.noSelect #[o0, o1, o2, o3, o4, o5, o6, o7, o8, o9, o10, o11, o12, o13, o14, o15, o16, o17, o18, o19, o20, o21, o22, o23, o24, o25, o26, o27, o28, o29, o30, o31, o32, o33, o34, o35, o36, o37, o38, o39, o40] = true) (hf : Region.free md #[o0, o1, o2, o3, o4, o5, o6, o7, o8, o9, o10, o11, o12, o13, o14, o15, o16, o17, o18, o19, o20, o21, o22, o23, o24, o25, o26, o27, o28, o29, o30, o31, o32, o33, o34, o35, o36, o37, o38, o39, o40] listed 38 = true) (hr : (Region.ready md #[o0, o1, o2, o3, o4, o5, o6, o7, o8, o9, o10, o11, o12, o13, o14, o15, o16, o17, o18, o19, o20, o21, o22, o23, o24, o25, o26, o27, o28, o29, o30, o31, o32, o33, o34, o35, o36, o37, o38, o39, o40] listed).contains 38 = true) (hQ : ∀ c a w, Q (.panic c) (a.put o38.dst v) w → Q (.panic c) a w) (hy : YieldsIf P #[o0, o1, o2, o3, o4, o5, o6, o7, o8, o9, o10, o11, o12, o13, o14, o15, o16, o17, o18, o19, o20, o21, o22, o23, o24, o25, o26, o27, o28, o29, o30, o31, o32, o33, o34, o35, o36, o37, o38, o39, o40] S o38 v a) (hS : S w) (h : wpAnyH P md #[o0, o1, o2, o3, o4, o5, o6, o7, o8, o9, o10, o11, o12, o13, o14, o15, o16, o17, o18, o19, o20, o21, o22, o23, o24, o25, o26, o27, o28, o29, o30, o31, o32, o33, o34, o35, o36, o37, o38, o39, o40] Q S fuel (listed.setIfInBounds 38 true) (a.put o38.dst v) w) : wpAnyH P md #[o0, o1, o2, o3, o4, o5, o6, o7, o8, o9, o10, o11, o12, o13, o14, o15, o16, o17, o18, o19, o20, o21, o22, o23, o24, o25, o26, o27, o28, o29, o30, o31, o32, o33, o34, o35, o36, o37, o38, o39, o40] Q S (fuel + 1) listed a w := wpAnyH_take (i := 38) (oi := o38) rfl hs hf hr hQ hy hS h
theorem ac39 (hr : Region.ready md #[o0, o1, o2, o3, o4, o5, o6, o7, o8, o9, o10, o11, o12, o13, o14, o15, o16, o17, o18, o19, o20, o21, o22, o23, o24, o25, o26, o27, o28, o29, o30, o31, o32, o33, o34, o35, o36, o37, o38, o39, o40] listed = [39]) (h : ∀ K' : Act → World → Prop, Shut (∀ a w, S w → (S w → wpAnyH P md #[o0, o1, o2, o3, o4, o5, o6, o7, o8, o9, o10, o11, o12, o13, o14, o15, o16, o17, o18, o19, o20, o21, o22, o23, o24, o25, o26, o27, o28, o29, o30, o31, o32, o33, o34, o35, o36, o37, o38, o39, o40] Q S fuel (listed.setIfInBounds 39 true) a w) → K' a w) → if Region.wanted o39 (yielded #[o0, o1, o2, o3, o4, o5, o6, o7, o8, o9, o10, o11, o12, o13, o14, o15, o16, o17, o18, o19, o20, o21, o22, o23, o24, o25, o26, o27, o28, o29, o30, o31, o32, o33, o34, o35, o36, o37, o38, o39, o40] a.tmps) = true then Oper.wp P o39 a w K' Q else K' (a.put o39.dst undef) w) : wpAnyH P md #[o0, o1, o2, o3, o4, o5, o6, o7, o8, o9, o10, o11, o12, o13, o14, o15, o16, o17, o18, o19, o20, o21, o22, o23, o24, o25, o26, o27, o28, o29, o30, o31, o32, o33, o34, o35, o36, o37, o38, o39, o40] Q S (fuel + 1) listed a w := wpAnyH_ready hr (by simp) (AllReadyH.cons (o := o39) rfl h AllReadyH.nil)
theorem ac40 (hr : Region.ready md #[o0, o1, o2, o3, o4, o5, o6, o7, o8, o9, o10, o11, o12, o13, o14, o15, o16, o17, o18, o19, o20, o21, o22, o23, o24, o25, o26, o27, o28, o29, o30, o31, o32, o33, o34, o35, o36, o37, o38, o39, o40] listed = [40]) (h : ∀ K' : Act → World → Prop, Shut (∀ a w, S w → (S w → wpAnyH P md #[o0, o1, o2, o3, o4, o5, o6, o7, o8, o9, o10, o11, o12, o13, o14, o15, o16, o17, o18, o19, o20, o21, o22, o23, o24, o25, o26, o27, o28, o29, o30, o31, o32, o33, o34, o35, o36, o37, o38, o39, o40] Q S fuel (listed.setIfInBounds 40 true) a w) → K' a w) → if Region.wanted o40 (yielded #[o0, o1, o2, o3, o4, o5, o6, o7, o8, o9, o10, o11, o12, o13, o14, o15, o16, o17, o18, o19, o20, o21, o22, o23, o24, o25, o26, o27, o28, o29, o30, o31, o32, o33, o34, o35, o36, o37, o38, o39, o40] a.tmps) = true then Oper.wp P o40 a w K' Q else K' (a.put o40.dst undef) w) : wpAnyH P md #[o0, o1, o2, o3, o4, o5, o6, o7, o8, o9, o10, o11, o12, o13, o14, o15, o16, o17, o18, o19, o20, o21, o22, o23, o24, o25, o26, o27, o28, o29, o30, o31, o32, o33, o34, o35, o36, o37, o38, o39, o40] Q S (fuel + 1) listed a w := wpAnyH_ready hr (by simp) (AllReadyH.cons (o := o40) rfl h AllReadyH.nil)
theorem ac28_39 (hr : Region.ready md #[o0, o1, o2, o3, o4, o5, o6, o7, o8, o9, o10, o11, o12, o13, o14, o15, o16, o17, o18, o19, o20, o21, o22, o23, o24, o25, o26, o27, o28, o29, o30, o31, o32, o33, o34, o35, o36, o37, o38, o39, o40] listed = [28, 39]) (h : ∀ K' : Act → World → Prop, Shut (∀ a w, S w → (S w → wpAnyH P md #[o0, o1, o2, o3, o4, o5, o6, o7, o8, o9, o10, o11, o12, o13, o14, o15, o16, o17, o18, o19, o20, o21, o22, o23, o24, o25, o26, o27, o28, o29, o30, o31, o32, o33, o34, o35, o36, o37, o38, o39, o40] Q S fuel (listed.setIfInBounds 28 true) a w) → K' a w) → if Region.wanted o28 (yielded #[o0, o1, o2, o3, o4, o5, o6, o7, o8, o9, o10, o11, o12, o13, o14, o15, o16, o17, o18, o19, o20, o21, o22, o23, o24, o25, o26, o27, o28, o29, o30, o31, o32, o33, o34, o35, o36, o37, o38, o39, o40] a.tmps) = true then Oper.wp P o28 a w K' Q else K' (a.put o28.dst undef) w) (h2 : ∀ K' : Act → World → Prop, Shut (∀ a w, S w → (S w → wpAnyH P md #[o0, o1, o2, o3, o4, o5, o6, o7, o8, o9, o10, o11, o12, o13, o14, o15, o16, o17, o18, o19, o20, o21, o22, o23, o24, o25, o26, o27, o28, o29, o30, o31, o32, o33, o34, o35, o36, o37, o38, o39, o40] Q S fuel (listed.setIfInBounds 39 true) a w) → K' a w) → if Region.wanted o39 (yielded #[o0, o1, o2, o3, o4, o5, o6, o7, o8, o9, o10, o11, o12, o13, o14, o15, o16, o17, o18, o19, o20, o21, o22, o23, o24, o25, o26, o27, o28, o29, o30, o31, o32, o33, o34, o35, o36, o37, o38, o39, o40] a.tmps) = true then Oper.wp P o39 a w K' Q else K' (a.put o39.dst undef) w) : wpAnyH P md #[o0, o1, o2, o3, o4, o5, o6, o7, o8, o9, o10, o11, o12, o13, o14, o15, o16, o17, o18, o19, o20, o21, o22, o23, o24, o25, o26, o27, o28, o29, o30, o31, o32, o33, o34, o35, o36, o37, o38, o39, o40] Q S (fuel + 1) listed a w := wpAnyH_ready hr (by simp) (AllReadyH.cons (o := o28) rfl h (AllReadyH.cons (o := o39) rfl h2 AllReadyH.nil))
end
end Go.Proofs.YtphnnbbgcnilgaaDoor.LstR41

namespace Go.Proofs.YtphnnbbgcnilgaaDoor.LstK
open Go.RowKit Go.Proofs.YtphnnbbgcnilgaaDoorW.PrintWords Go.Proofs.YtphnnbbgcnilgaaDoor.Common Go.Proofs.YtphnnbbgcnilgaaDoor.LstT Go.Proofs.YtphnnbbgcnilgaaDoor.LstA Go.Proofs.YtphnnbbgcnilgaaDoor.LstB Go.Proofs.YtphnnbbgcnilgaaDoor.LstC Go.Proofs.YtphnnbbgcnilgaaDoor.LstE Go.Proofs.YtphnnbbgcnilgaaDoor.LstF Go.Proofs.YtphnnbbgcnilgaaDoor.LstG Go.Proofs.YtphnnbbgcnilgaaDoor.LstH Go.Proofs.YtphnnbbgcnilgaaDoor.LstI Go.Proofs.YtphnnbbgcnilgaaDoor.LstR41 Go.Proofs.YtphnnbbgcnilgaaDoor.Bld
set_option linter.unusedVariables false
set_option linter.unusedSimpArgs false
set_option maxRecDepth 1000000

theorem RS.rd {B : Nat} {w0 : World} {q qs : Nat} {gs : List Nat} {its : List (Nat × ByteArray)} {lev : Nat} {y : Sty} {vs cl : ByteArray} {ap : Nat} {v : Value} {W : World} (h : RS B w0 q qs gs its lev y vs cl ap v W) (hF : FmtC y.fm W) : RD q qs its y vs W := by
  refine ⟨(cell_of_row _ _ _ _ _ _ h.hq).trans rfl, (cell_of_row _ _ _ _ _ _ h.hq).trans rfl, fun i u hu => (cell_of_row _ _ _ _ _ _ h.hs).trans hu, ?_, hF⟩
  obtain ⟨A, c, rfl, _, hC⟩ := Kd.R_reads h.row
  refine ⟨A, c, by rw [← h.len]; exact (cell_of_row _ _ _ _ _ _ h.hq).trans rfl, fun i x hx => ?_⟩
  have hi : i < gs.length := by rw [h.len]; exact (List.getElem?_eq_some_iff.1 hx).1
  obtain ⟨ad, c1, rfl, _, hK, hc⟩ := Kd.C_get hC (0 : Nat) (i : Int) (by omega) (by omega)
  have hK2 : c1 = [.pointer (some ⟨gs.getD (i : Int).toNat 0, 0, none⟩)] := hK
  subst hK2
  have h1 := hc 0 _ rfl
  rw [Int.toNat_natCast, show PK.sz = 1 from rfl, Nat.mul_one, Nat.add_zero] at h1
  have e : gs.getD i 0 = gs[i] := by simp [List.getD_eq_getElem?_getD, List.getElem?_eq_getElem hi]
  rw [e] at h1
  have hk := h.el i gs[i] x (List.getElem?_eq_getElem hi) hx
  exact ⟨ad, gs[i], rfl, h1, (cell_of_row _ _ _ _ _ _ hk.1).trans rfl, (cell_of_row _ _ _ _ _ _ hk.1).trans rfl⟩
def at0 (its : List (Nat × ByteArray)) (i : Nat) : Nat × ByteArray := its.getD i (0, ⟨#[]⟩)
def firstF (its : List (Nat × ByteArray)) (i : Nat) : Bool := decide (i = 0) || decide ((at0 its i).1 > (at0 its (i - 1)).1)
def lastF (its : List (Nat × ByteArray)) (i : Nat) : Bool := !moreF its (at0 its i).1 i
def lineL (its : List (Nat × ByteArray)) (y : Sty) (vs : ByteArray) (i : Nat) : List UInt8 :=
  itemL its y vs i (at0 its i).1 (at0 its i).2 (decide (i = 0)) (firstF its i) (firstF its i && lastF its i) (lastF its i) (decide (i = its.length - 1))
def outL (its : List (Nat × ByteArray)) (y : Sty) (vs : ByteArray) (k : Nat) : List UInt8 := (List.range k).flatMap (lineL its y vs)
theorem outL_succ (its : List (Nat × ByteArray)) (y : Sty) (vs : ByteArray) (k : Nat) : outL its y vs (k + 1) = outL its y vs k ++ lineL its y vs k := by
  unfold outL
  rw [List.range_succ, List.flatMap_append]
  simp
theorem at0_eq (its : List (Nat × ByteArray)) (i : Nat) (h : i < its.length) : its[i]? = some (at0 its i) := by
  simp [at0, List.getD_eq_getElem?_getD, List.getElem?_eq_getElem h]
theorem bw {w1 w2 W : World} {gb : Nat} (hg : gb = w1.heap.size) (hb : Below w1.heap.size w1 w2) (hW : Below gb w2 W) : Below w1.heap.size w1 W := by
  subst hg
  exact hb.trans hW
theorem RB0 {q qs : Nat} {its : List (Nat × ByteArray)} {y : Sty} {vs : ByteArray} {w1 w2 w3 : World} {gb : Nat} {X : Array Value} (hrd : RD q qs its y vs w1) (hg : gb = w1.heap.size) (hx : w2.heap[gb]? = some (.cells X 70 (0, 0))) (hb : Below w1.heap.size w1 w2)
    (hba : Lib.BuilderAt 70 5 gb gb (.pointer (some ⟨gb, 0, none⟩)) [] w3) (hbb : Below gb w2 w3) : RB q qs its y vs gb w2 [] 0 w3 :=
  ⟨fun W hW => hrd.below (bw hg hb hW), ⟨Or.inr (Lib.BuilderAtF.of hba), hbb, by simp, blk_lt hx⟩⟩
/-- a store into a block of type 58 -/
theorem _root_.Go.Proofs.YtphnnbbgcnilgaaDoor.LstF.RB.hint {q qs : Nat} {its : List (Nat × ByteArray)} {y : Sty} {vs : ByteArray} {Bb : Nat} {W0 W : World} {acc : List UInt8} {m gh : Nat} {T : Array Value} (h : RB q qs its y vs Bb W0 acc m W) (hg : W.heap[gh]? = some (.cells T 77 (0, 0))) (hB : Bb ≤ gh) (j : Nat) (u : Value) : RB q qs its y vs Bb W0 acc m (W.setCell ⟨gh, j, none⟩ u) := by
  have at_ : ∀ p : Value, Lib.BuilderAtF 70 5 Bb Bb p (Lib.byteCells acc) W → Lib.BuilderAtF 70 5 Bb Bb p (Lib.byteCells acc) (W.setCell ⟨gh, j, none⟩ u) := fun p h => by
    obtain ⟨hB, v, hv, hown, hne⟩ := h
    refine ⟨hB, v, (setCell_block W _ u Bb (typed_ne hv hg (by decide))).trans hv, hown.kept (row := some gh) ⟨rfl, rfl, rfl, by simp [World.setCell], fun k hk hne => setCell_block W _ u k (fun e => hne (by rw [e]))⟩ ?_, hne⟩
    rcases hvb : v.ownBlock with _ | k
    · exact .inl rfl
    · refine .inr (fun e => ?_)
      injection e with e
      subst e
      obtain ⟨c, fz, hk⟩ := Lib.ownsRowF_kind hown k hvb
      rw [hk] at hg
      injection hg with hg
      injection hg with _ hg
      exact absurd hg (by decide)
  exact ⟨h.rd, h.bs.isb.elim (fun x => .inl (at_ _ x)) (fun x => .inr (at_ _ x)), h.bs.bel.setCell hB _, h.bs.len, h.bs.lt⟩
section
variable {q qs : Nat} {its : List (Nat × ByteArray)} {y : Sty} {vs : ByteArray}
theorem rend_c {Bb : Nat} {W0 W : World} {acc : List UInt8} {m : Nat} (p : Value) (h : RB q qs its y vs Bb W0 acc m W) : Calls Tryd.prog 40 #[p, .pointer (some ⟨Bb, 0, none⟩)] W fun e w' => e = .returned (.string (ofL acc)) ∧ Below Bb W0 w' := by
  have HB := Aside0.mk h.bs
  clear h
  go_enter Tryd.func40, Tryd.ntmps40
  go_wp2_with (go_at_call 58; refine (bstring HB.out).mono ?_; rintro e w2 ⟨rfl, hb⟩)
  go_ret
  exact ⟨rfl, hb⟩
set_option maxHeartbeats 4000000 in
theorem render_c {B : Nat} {w0 w : World} (hinit : Calls Tryd.prog 36 #[.pointer (some ⟨q, 0, none⟩)] w fun e w' => ∃ u, e = .returned u ∧ B ≤ w'.heap.size ∧ Below B w0 w' ∧ ∃ qs ap, ap ≤ 110000000000 ∧ RD q qs its y vs w' ∧ w'.cell? ⟨q, 0, none⟩ = some (.int .i64 ((ap : Nat) : Int)))
    (hy : shortY y vs) (hn : its.length ≤ 1000) (hits : ∀ x ∈ its, x.1 ≤ 1000 ∧ FmA.okT y.fm x.2) :
    Calls Tryd.prog 26 #[.pointer (some ⟨q, 0, none⟩)] w fun e w' => e = .returned (.string (ofL (outL its y vs its.length))) ∧ Below B w0 w' := by
  have HI := Aside0.mk hinit
  have HY := Aside0.mk hy
  have HT := Aside0.mk hits
  clear hinit hy hits
  go_enter Tryd.func26, Tryd.ntmps26
  go_wp2_with (first
    | (go_at_call 36; refine HI.out.mono ?_; rintro e w1 ⟨u1, rfl, hsz, hbw, qs, ap, hap, hrd, hc0⟩; have HRD := Aside0.mk hrd; obtain ⟨Ai, ci, hq3, hit⟩ := hrd.it; have HIT := Aside0.mk hit; clear hrd hit)
    | ((with_reducible refine gate_dst (N := 3) rfl ?_); (try (refine gate_guard (by rfl) ?_; dsimp only)); refine box_event ?hg (N := 3) ?hd (cs := #[.pointer none, .slice none 0 0]) (t := 70) ?hr ?_; (case hd => rfl); (case hg => rfl); (case hr => first | (go_simp; done) | (go_simp; rfl)); intro gb hgb w2 hbox hb; have HGB := Aside0.mk hgb; have HBX := Aside0.mk hbox; have HB2 := Aside0.mk hb; have hc02 := pw_cell_below hb hc0; clear hgb hbox hb)
    | (go_at_call 37; refine (Tryd.Builder_Grow_fresh gb gb ap w2 (Nat.le_refl _) HBX.out (Nat.le_of_lt (blk_lt HBX.out)) (by omega)).mono ?_; rintro e w3 ⟨rfl, hba, hbb⟩; have HRB := Aside0.mk (RB0 HRD.out HGB.out HBX.out HB2.out hba hbb); have h33 := fun (W : World) (hW : Below gb w2 W) => pw_cell_below (bw HGB.out HB2.out hW) hq3; have h34 := h33 w3 hbb; clear hba hbb))
  clear hc0 hc02 hq3 h34
  go_loopw [19] (fun i wr => ∃ k m : Nat, Value.int .i64 (k : Int) = i ∧ k ≤ its.length ∧ m ≤ k * 1010000 ∧ Aside0 (RB q qs its y vs gb w2 (outL its y vs k) m wr)) (fun i _ => its.length - (intOf i).toNat)
  case atStart => exact ⟨0, 0, rfl, by omega, by omega, HRB⟩
  case round =>
    obtain ⟨k, m, rfl, hk, hm, HR⟩ := hrel
    have hm2 : m ≤ 1010000000 := by omega
    clear HRB
    by_cases hlt : k < its.length
    · obtain ⟨ad, g, rfl, e1, e2, e3⟩ := HIT.out k _ (at0_eq its k hlt)
      have HG : ∀ W, Below gb w2 W → W.cell? ⟨g, 0, none⟩ = some (.int .i64 ((at0 its k).1 : Int)) ∧ W.cell? ⟨g, 1, none⟩ = some (.string (at0 its k).2) := fun W hW => ⟨pw_cell_below (bw HGB.out HB2.out hW) e2, pw_cell_below (bw HGB.out HB2.out hW) e3⟩
      have HGA := Aside0.mk HG
      have e1' := pw_cell_below (bw HGB.out HB2.out HR.out.bs.bel) e1
      have hbx := HT.out _ (List.mem_of_getElem? (at0_eq its k hlt))
      have HLS := Aside0.mk (outL_succ its y vs k)
      have ez : ad.add 0 = ad := by obtain ⟨b, o, e⟩ := ad; cases e <;> simp [Addr.add]
      have hbx1 := hbx.1
      clear e1 e2 e3 HG
      by_cases hz : k = 0
      · subst hz
        obtain ⟨g0, g1⟩ := HGA.out _ HR.out.bs.bel
        have c3 := h33 wr HR.out.bs.bel
        have HMW := fun (W : World) (hb : Below wr.heap.size wr W) => Aside0.mk (more_r (HR.out.below hb) (at0 its 0).1 0 (by omega) (by omega) (by omega))
        have hw1 : IntKind.i64.wrap ((its.length : Int) - 1) = ((its.length - 1 : Nat) : Int) := by rw [IntKind.wrap_i64]; omega
        have hq1 : (((0 : Nat) : Int) == ((its.length - 1 : Nat) : Int)) = decide (0 = its.length - 1) := by rw [Bool.eq_iff_iff]; simp; omega
        rw [ez] at e1'
        have e1x := e1'
        go_upto_region 7 with fail
        go_cut [6] from 24 to 62 (fun s6 wx => ∃ gh, s6 = .pointer (some ⟨gh, 0, none⟩) ∧ wx.heap[gh]? = some (.cells #[.bool (decide (0 = 0)), .bool (firstF its 0), .bool false, .bool (lastF its 0), .bool (decide (0 = its.length - 1))] 77 (0, 0)) ∧ Below wr.heap.size wr wx ∧ wr.heap.size ≤ gh)
        case first =>
          clear e1x
          refine wp_region_held_drew (S := fun w' => w'.cell? ⟨q, 3, none⟩ = some (.slice (some ad) its.length ci) ∧ w'.cell? ⟨g, 0, none⟩ = some (.int .i64 ((at0 its 0).1 : Int))) (by kernel_rfl) ⟨c3, g0⟩ (fun hHeld => ?_)
          have hAl : ∀ o, (fun w' => w'.cell? ⟨q, 3, none⟩ = some (.slice (some ad) its.length ci) ∧ w'.cell? ⟨g, 0, none⟩ = some (.int .i64 ((at0 its 0).1 : Int))) (wr.drew.alloc o) := fun o => ⟨pw_cell_below (below_alloc (Below.refl _ _) o) hHeld.1, pw_cell_below (below_alloc (Below.refl _ _) o) hHeld.2⟩
          refine tk0 (v := ?_) (by kernel_rfl) (by kernel_rfl) (by kernel_rfl) (fun _ _ _ h => h) (Or.inl ⟨by rfl, ?_⟩) hHeld ?_
          rotate_left
          · (intro w hSw; obtain ⟨k1, k2⟩ := hSw; go_simp; first | with_reducible rfl | exact hw1 | exact hq1 | skip)
          try simp only [Act.put, List.setIfInBounds_toArray, List.set_cons_zero, List.set_cons_succ]
          refine tk1 (v := .bool true) (by kernel_rfl) (by kernel_rfl) (by kernel_rfl) (fun _ _ _ h => h) (Or.inl ⟨by rfl, ?_⟩) hHeld ?_
          skip
          · (intro w hSw; obtain ⟨k1, k2⟩ := hSw; go_simp; first | with_reducible rfl | exact hw1 | exact hq1 | skip)
          try simp only [Act.put, List.setIfInBounds_toArray, List.set_cons_zero, List.set_cons_succ]
          refine tk2 (v := ?_) (by kernel_rfl) (by kernel_rfl) (by kernel_rfl) (fun _ _ _ h => h) (Or.inl ⟨by rfl, ?_⟩) hHeld ?_
          rotate_left
          · (intro w hSw; obtain ⟨k1, k2⟩ := hSw; go_simp; first | with_reducible rfl | exact hw1 | exact hq1 | skip)
          try simp only [Act.put, List.setIfInBounds_toArray, List.set_cons_zero, List.set_cons_succ]
          refine tk3 (v := .bool true) (by kernel_rfl) (by kernel_rfl) (by kernel_rfl) (fun _ _ _ h => h) (Or.inl ⟨by rfl, ?_⟩) hHeld ?_
          skip
          · (intro w hSw; obtain ⟨k1, k2⟩ := hSw; go_simp; first | with_reducible rfl | exact hw1 | exact hq1 | skip)
          try simp only [Act.put, List.setIfInBounds_toArray, List.set_cons_zero, List.set_cons_succ]
          refine tk4 (v := ?_) (by kernel_rfl) (by kernel_rfl) (by kernel_rfl) (fun _ _ _ h => h) (Or.inl ⟨by rfl, ?_⟩) hHeld ?_
          rotate_left
          · (intro w hSw; obtain ⟨k1, k2⟩ := hSw; go_simp; first | with_reducible rfl | exact hw1 | exact hq1 | skip)
          try simp only [Act.put, List.setIfInBounds_toArray, List.set_cons_zero, List.set_cons_succ]
          refine tk5 (v := undef) (by kernel_rfl) (by kernel_rfl) (by kernel_rfl) (fun _ _ _ h => h) (Or.inr ⟨by rfl, rfl⟩) hHeld ?_
          try simp only [Act.put, List.setIfInBounds_toArray, List.set_cons_zero, List.set_cons_succ]
          refine tk6 (v := undef) (by kernel_rfl) (by kernel_rfl) (by kernel_rfl) (fun _ _ _ h => h) (Or.inr ⟨by rfl, rfl⟩) hHeld ?_
          try simp only [Act.put, List.setIfInBounds_toArray, List.set_cons_zero, List.set_cons_succ]
          refine tk7 (v := undef) (by kernel_rfl) (by kernel_rfl) (by kernel_rfl) (fun _ _ _ h => h) (Or.inr ⟨by rfl, rfl⟩) hHeld ?_
          try simp only [Act.put, List.setIfInBounds_toArray, List.set_cons_zero, List.set_cons_succ]
          refine tk8 (v := undef) (by kernel_rfl) (by kernel_rfl) (by kernel_rfl) (fun _ _ _ h => h) (Or.inr ⟨by rfl, rfl⟩) hHeld ?_
          try simp only [Act.put, List.setIfInBounds_toArray, List.set_cons_zero, List.set_cons_succ]
          refine tk9 (v := undef) (by kernel_rfl) (by kernel_rfl) (by kernel_rfl) (fun _ _ _ h => h) (Or.inr ⟨by rfl, rfl⟩) hHeld ?_
          try simp only [Act.put, List.setIfInBounds_toArray, List.set_cons_zero, List.set_cons_succ]
          refine tk10 (v := undef) (by kernel_rfl) (by kernel_rfl) (by kernel_rfl) (fun _ _ _ h => h) (Or.inr ⟨by rfl, rfl⟩) hHeld ?_
          try simp only [Act.put, List.setIfInBounds_toArray, List.set_cons_zero, List.set_cons_succ]
          refine tk11 (v := undef) (by kernel_rfl) (by kernel_rfl) (by kernel_rfl) (fun _ _ _ h => h) (Or.inr ⟨by rfl, rfl⟩) hHeld ?_
          try simp only [Act.put, List.setIfInBounds_toArray, List.set_cons_zero, List.set_cons_succ]
          refine tk12 (v := undef) (by kernel_rfl) (by kernel_rfl) (by kernel_rfl) (fun _ _ _ h => h) (Or.inr ⟨by rfl, rfl⟩) hHeld ?_
          try simp only [Act.put, List.setIfInBounds_toArray, List.set_cons_zero, List.set_cons_succ]
          refine tk13 (v := undef) (by kernel_rfl) (by kernel_rfl) (by kernel_rfl) (fun _ _ _ h => h) (Or.inr ⟨by rfl, rfl⟩) hHeld ?_
          try simp only [Act.put, List.setIfInBounds_toArray, List.set_cons_zero, List.set_cons_succ]
          refine tk14 (v := undef) (by kernel_rfl) (by kernel_rfl) (by kernel_rfl) (fun _ _ _ h => h) (Or.inr ⟨by rfl, rfl⟩) hHeld ?_
          try simp only [Act.put, List.setIfInBounds_toArray, List.set_cons_zero, List.set_cons_succ]
          refine tk15 (v := undef) (by kernel_rfl) (by kernel_rfl) (by kernel_rfl) (fun _ _ _ h => h) (Or.inr ⟨by rfl, rfl⟩) hHeld ?_
          try simp only [Act.put, List.setIfInBounds_toArray, List.set_cons_zero, List.set_cons_succ]
          refine tk16 (v := undef) (by kernel_rfl) (by kernel_rfl) (by kernel_rfl) (fun _ _ _ h => h) (Or.inr ⟨by rfl, rfl⟩) hHeld ?_
          try simp only [Act.put, List.setIfInBounds_toArray, List.set_cons_zero, List.set_cons_succ]
          refine tk17 (v := undef) (by kernel_rfl) (by kernel_rfl) (by kernel_rfl) (fun _ _ _ h => h) (Or.inr ⟨by rfl, rfl⟩) hHeld ?_
          try simp only [Act.put, List.setIfInBounds_toArray, List.set_cons_zero, List.set_cons_succ]
          refine tk18 (v := undef) (by kernel_rfl) (by kernel_rfl) (by kernel_rfl) (fun _ _ _ h => h) (Or.inr ⟨by rfl, rfl⟩) hHeld ?_
          try simp only [Act.put, List.setIfInBounds_toArray, List.set_cons_zero, List.set_cons_succ]
          refine tk19 (v := undef) (by kernel_rfl) (by kernel_rfl) (by kernel_rfl) (fun _ _ _ h => h) (Or.inr ⟨by rfl, rfl⟩) hHeld ?_
          try simp only [Act.put, List.setIfInBounds_toArray, List.set_cons_zero, List.set_cons_succ]
          refine tk20 (v := undef) (by kernel_rfl) (by kernel_rfl) (by kernel_rfl) (fun _ _ _ h => h) (Or.inr ⟨by rfl, rfl⟩) hHeld ?_
          try simp only [Act.put, List.setIfInBounds_toArray, List.set_cons_zero, List.set_cons_succ]
          refine tk21 (v := ?_) (by kernel_rfl) (by kernel_rfl) (by kernel_rfl) (fun _ _ _ h => h) (Or.inl ⟨by rfl, ?_⟩) hHeld ?_
          rotate_left
          · (intro w hSw; obtain ⟨k1, k2⟩ := hSw; go_simp; first | with_reducible rfl | exact hw1 | exact hq1 | skip)
          try simp only [Act.put, List.setIfInBounds_toArray, List.set_cons_zero, List.set_cons_succ]
          refine tk22 (v := ?_) (by kernel_rfl) (by kernel_rfl) (by kernel_rfl) (fun _ _ _ h => h) (Or.inl ⟨by rfl, ?_⟩) hHeld ?_
          rotate_left
          · (intro w hSw; obtain ⟨k1, k2⟩ := hSw; go_simp; first | with_reducible rfl | exact hw1 | exact hq1 | skip)
          try simp only [Act.put, List.setIfInBounds_toArray, List.set_cons_zero, List.set_cons_succ]
          refine tk23 (v := ?_) (by kernel_rfl) (by kernel_rfl) (by kernel_rfl) (fun _ _ _ h => h) (Or.inl ⟨by rfl, ?_⟩) hHeld ?_
          rotate_left
          · (intro w hSw; obtain ⟨k1, k2⟩ := hSw; go_simp; first | with_reducible rfl | exact hw1 | exact hq1 | skip)
          try simp only [Act.put, List.setIfInBounds_toArray, List.set_cons_zero, List.set_cons_succ]
          refine tk24 (v := ?_) (by kernel_rfl) (by kernel_rfl) (by kernel_rfl) (fun _ _ _ h => h) (Or.inl ⟨by rfl, ?_⟩) hHeld ?_
          rotate_left
          · (intro w hSw; obtain ⟨k1, k2⟩ := hSw; go_simp; first | with_reducible rfl | exact hw1 | exact hq1 | skip)
          try simp only [Act.put, List.setIfInBounds_toArray, List.set_cons_zero, List.set_cons_succ]
          refine tk25 (v := ?_) (by kernel_rfl) (by kernel_rfl) (by kernel_rfl) (fun _ _ _ h => h) (Or.inl ⟨by rfl, ?_⟩) hHeld ?_
          rotate_left
          · (intro w hSw; obtain ⟨k1, k2⟩ := hSw; go_simp; first | with_reducible rfl | exact hw1 | exact hq1 | skip)
          try simp only [Act.put, List.setIfInBounds_toArray, List.set_cons_zero, List.set_cons_succ]
          refine tk26 (v := ?_) (by kernel_rfl) (by kernel_rfl) (by kernel_rfl) (fun _ _ _ h => h) (Or.inl ⟨by rfl, ?_⟩) hHeld ?_
          rotate_left
          · (intro w hSw; obtain ⟨k1, k2⟩ := hSw; go_simp; first | with_reducible rfl | exact hw1 | exact hq1 | skip)
          try simp only [Act.put, List.setIfInBounds_toArray, List.set_cons_zero, List.set_cons_succ]
          refine tk27 (v := ?_) (by kernel_rfl) (by kernel_rfl) (by kernel_rfl) (fun _ _ _ h => h) (Or.inl ⟨by rfl, ?_⟩) hHeld ?_
          rotate_left
          · (intro w hSw; obtain ⟨k1, k2⟩ := hSw; go_simp; first | with_reducible rfl | exact hw1 | exact hq1 | skip)
          try simp only [Act.put, List.setIfInBounds_toArray, List.set_cons_zero, List.set_cons_succ]
          refine tk30 (v := ?_) (by kernel_rfl) (by kernel_rfl) (by kernel_rfl) (fun _ _ _ h => h) (Or.inl ⟨by rfl, ?_⟩) hHeld ?_
          rotate_left
          · (intro w hSw; obtain ⟨k1, k2⟩ := hSw; go_simp; first | with_reducible rfl | exact hw1 | exact hq1 | skip)
          try simp only [Act.put, List.setIfInBounds_toArray, List.set_cons_zero, List.set_cons_succ]
          refine tk31 (v := ?_) (by kernel_rfl) (by kernel_rfl) (by kernel_rfl) (fun _ _ _ h => h) (Or.inl ⟨by rfl, ?_⟩) hHeld ?_
          rotate_left
          · (intro w hSw; obtain ⟨k1, k2⟩ := hSw; go_simp; first | with_reducible rfl | exact hw1 | exact hq1 | skip)
          try simp only [Act.put, List.setIfInBounds_toArray, List.set_cons_zero, List.set_cons_succ]
          refine tk32 (v := ?_) (by kernel_rfl) (by kernel_rfl) (by kernel_rfl) (fun _ _ _ h => h) (Or.inl ⟨by rfl, ?_⟩) hHeld ?_
          rotate_left
          · (intro w hSw; obtain ⟨k1, k2⟩ := hSw; go_simp; first | with_reducible rfl | exact hw1 | exact hq1 | skip)
          try simp only [Act.put, List.setIfInBounds_toArray, List.set_cons_zero, List.set_cons_succ]
          refine tk33 (v := ?_) (by kernel_rfl) (by kernel_rfl) (by kernel_rfl) (fun _ _ _ h => h) (Or.inl ⟨by rfl, ?_⟩) hHeld ?_
          rotate_left
          · (intro w hSw; obtain ⟨k1, k2⟩ := hSw; go_simp; first | with_reducible rfl | exact hw1 | exact hq1 | skip)
          try simp only [Act.put, List.setIfInBounds_toArray, List.set_cons_zero, List.set_cons_succ]
          refine tk34 (v := ?_) (by kernel_rfl) (by kernel_rfl) (by kernel_rfl) (fun _ _ _ h => h) (Or.inl ⟨by rfl, ?_⟩) hHeld ?_
          rotate_left
          · (intro w hSw; obtain ⟨k1, k2⟩ := hSw; go_simp; first | with_reducible rfl | exact hw1 | exact hq1 | skip)
          try simp only [Act.put, List.setIfInBounds_toArray, List.set_cons_zero, List.set_cons_succ]
          refine tk35 (v := ?_) (by kernel_rfl) (by kernel_rfl) (by kernel_rfl) (fun _ _ _ h => h) (Or.inl ⟨by rfl, ?_⟩) hHeld ?_
          rotate_left
          · (intro w hSw; obtain ⟨k1, k2⟩ := hSw; go_simp; first | with_reducible rfl | exact hw1 | exact hq1 | skip)
          try simp only [Act.put, List.setIfInBounds_toArray, List.set_cons_zero, List.set_cons_succ]
          refine tk36 (v := .int .i64 (((its.length - 1 : Nat)) : Int)) (by kernel_rfl) (by kernel_rfl) (by kernel_rfl) (fun _ _ _ h => h) (Or.inl ⟨by rfl, ?_⟩) hHeld ?_
          skip
          · (intro w hSw; obtain ⟨k1, k2⟩ := hSw; go_simp; first | with_reducible rfl | exact hw1 | exact hq1 | skip)
          try simp only [Act.put, List.setIfInBounds_toArray, List.set_cons_zero, List.set_cons_succ]
          refine tk37 (v := .bool (decide (0 = its.length - 1))) (by kernel_rfl) (by kernel_rfl) (by kernel_rfl) (fun _ _ _ h => h) (Or.inl ⟨by rfl, ?_⟩) hHeld ?_
          skip
          · (intro w hSw; obtain ⟨k1, k2⟩ := hSw; go_simp; first | with_reducible rfl | exact hw1 | exact hq1 | skip)
          try simp only [Act.put, List.setIfInBounds_toArray, List.set_cons_zero, List.set_cons_succ]
          refine ac28_39 (by kernel_rfl) (fun K hK => ?_) (fun K hK => ?_)
          · go_simp
            (go_at_call 38; refine (HMW _ (below_drew1 (Below.refl _ _))).out.mono ?_; rintro e wy ⟨rfl, hw⟩; replace hw := hw.symm; subst hw)
            try go_wp2_with fail
            refine hK.out _ _ hHeld (fun hHeld => ?_)
            clear hK K
            try simp only [Act.put, List.setIfInBounds_toArray, List.set_cons_zero, List.set_cons_succ]
            refine tk29 (v := ?_) (by kernel_rfl) (by kernel_rfl) (by kernel_rfl) (fun _ _ _ h => h) (Or.inl ⟨by rfl, ?_⟩) hHeld ?_
            rotate_left
            · (intro w hSw; obtain ⟨k1, k2⟩ := hSw; go_simp; first | with_reducible rfl | exact hw1 | exact hq1 | skip)
            try simp only [Act.put, List.setIfInBounds_toArray, List.set_cons_zero, List.set_cons_succ]
            refine tk38 (v := ?_) (by kernel_rfl) (by kernel_rfl) (by kernel_rfl) (fun _ _ _ h => h) (Or.inl ⟨by rfl, ?_⟩) hHeld ?_
            rotate_left
            · (intro w hSw; obtain ⟨k1, k2⟩ := hSw; go_simp; first | with_reducible rfl | exact hw1 | exact hq1 | skip)
            try simp only [Act.put, List.setIfInBounds_toArray, List.set_cons_zero, List.set_cons_succ]
            refine ac39 (by kernel_rfl) (fun K hK => ?_)
            go_simp
            refine hK.out _ _ (hAl _) (fun hHeld => ?_)
            clear hK K
            try simp only [Act.put, List.setIfInBounds_toArray, List.set_cons_zero, List.set_cons_succ]
            refine ac40 (by kernel_rfl) (fun K hK => ?_)
            go_simp
            refine hK.out _ _ (hAl _) (fun hHeld => ?_)
            clear hK K
            refine wpAnyH_done (by kernel_rfl) ?_ _
            try simp only [Act.put, List.setIfInBounds_toArray, List.set_cons_zero, List.set_cons_succ]
            go_wp2_with fail
            go_meet
            exact ⟨wr.heap.size, rfl, heap_alloc_new wr _, below_drew1 (below_alloc (Below.refl _ _) _), Nat.le_refl _⟩
          · go_simp
            refine hK.out _ _ (hAl _) (fun hHeld => ?_)
            clear hK K
            try simp only [Act.put, List.setIfInBounds_toArray, List.set_cons_zero, List.set_cons_succ]
            refine ac28 (by kernel_rfl) (fun K hK => ?_)
            go_simp
            (go_at_call 38; refine (HMW _ (below_drew1 (below_alloc (Below.refl _ _) _))).out.mono ?_; rintro e wy ⟨rfl, hw⟩; replace hw := hw.symm; subst hw)
            try go_wp2_with fail
            refine hK.out _ _ hHeld (fun hHeld => ?_)
            clear hK K
            try simp only [Act.put, List.setIfInBounds_toArray, List.set_cons_zero, List.set_cons_succ]
            refine tk29 (v := ?_) (by kernel_rfl) (by kernel_rfl) (by kernel_rfl) (fun _ _ _ h => h) (Or.inl ⟨by rfl, ?_⟩) hHeld ?_
            rotate_left
            · (intro w hSw; obtain ⟨k1, k2⟩ := hSw; go_simp; first | with_reducible rfl | exact hw1 | exact hq1 | skip)
            try simp only [Act.put, List.setIfInBounds_toArray, List.set_cons_zero, List.set_cons_succ]
            refine tk38 (v := ?_) (by kernel_rfl) (by kernel_rfl) (by kernel_rfl) (fun _ _ _ h => h) (Or.inl ⟨by rfl, ?_⟩) hHeld ?_
            rotate_left
            · (intro w hSw; obtain ⟨k1, k2⟩ := hSw; go_simp; first | with_reducible rfl | exact hw1 | exact hq1 | skip)
            try simp only [Act.put, List.setIfInBounds_toArray, List.set_cons_zero, List.set_cons_succ]
            refine ac40 (by kernel_rfl) (fun K hK => ?_)
            go_simp
            refine hK.out _ _ (hAl _) (fun hHeld => ?_)
            clear hK K
            refine wpAnyH_done (by kernel_rfl) ?_ _
            try simp only [Act.put, List.setIfInBounds_toArray, List.set_cons_zero, List.set_cons_succ]
            go_wp2_with fail
            go_meet
            exact ⟨wr.heap.size, rfl, heap_alloc_new wr _, below_drew1 (below_alloc (Below.refl _ _) _), Nat.le_refl _⟩
        case rest =>
          obtain ⟨gh, rfl, hgh, hbx2, hghw⟩ := hcut
          have HW := Aside0.mk (HR.out.below hbx2)
          have HGH := Aside0.mk hgh
          have hBg := Nat.le_trans HR.out.bs.here hghw
          have hgd := hbx.2
          have hLL : lineL its y vs 0 = itemL its y vs 0 (at0 its 0).1 (at0 its 0).2 (decide (0 = 0)) (firstF its 0) (firstF its 0 && lastF its 0) (lastF its 0) (decide (0 = its.length - 1)) := rfl
          clear hbx2 hghw HMW HIT g0 g1 c3 e1x hbx
          generalize firstF its 0 = f at *
          generalize lastF its 0 = l at *
          generalize decide (0 = its.length - 1) = b at *
          generalize decide (0 = 0) = t at *
          have hcz0 : wc.cell? ⟨gh, 0, none⟩ = some (.bool t) := (blk_cell HGH.out 0).trans rfl
          have hcz1 : wc.cell? ⟨gh, 1, none⟩ = some (.bool f) := (blk_cell HGH.out 1).trans rfl
          have hcz2 : wc.cell? ⟨gh, 2, none⟩ = some (.bool false) := (blk_cell HGH.out 2).trans rfl
          have hcz3 : wc.cell? ⟨gh, 3, none⟩ = some (.bool l) := (blk_cell HGH.out 3).trans rfl
          have hcz4 : wc.cell? ⟨gh, 4, none⟩ = some (.bool b) := (blk_cell HGH.out 4).trans rfl
          have hfz2 := blk_frozen HGH.out 2
          have HWS := Aside0.mk (HW.out.hint HGH.out hBg 2 (.bool true))
          cases f with
          | true =>
            cases l with
            | true =>
              go_wp2_with (go_at_call 39; refine (item_c HWS.out HY.out (by omega) 0 (at0 its 0).1 g (at0 its 0).2 hgd (by omega) (by omega) hbx1 t true true true b HGA.out).mono ?_; rintro e w9 ⟨u9, rfl, hb9⟩; have HB9 := Aside0.mk hb9; clear hb9)
              have HE : Aside0 (RB q qs its y vs gb w2 (outL its y vs (0 + 1)) (m + 1010000) w9) := Aside0.mk ⟨HB9.out.rd, HB9.out.bs.mono (by rw [HLS.out, hLL]; rfl) (by have := HB9.out.bs.len; rw [HLS.out, hLL]; exact this)⟩
              go_roundw
              case rel => exact ⟨0 + 1, m + 1010000, by go_num, by omega, by omega, HE⟩
              case measure => simp [intOf]; omega
            | false =>
              go_wp2_with (go_at_call 39; refine (item_c HW.out HY.out (by omega) 0 (at0 its 0).1 g (at0 its 0).2 hgd (by omega) (by omega) hbx1 t true false false b HGA.out).mono ?_; rintro e w9 ⟨u9, rfl, hb9⟩; have HB9 := Aside0.mk hb9; clear hb9)
              have HE : Aside0 (RB q qs its y vs gb w2 (outL its y vs (0 + 1)) (m + 1010000) w9) := Aside0.mk ⟨HB9.out.rd, HB9.out.bs.mono (by rw [HLS.out, hLL]; rfl) (by have := HB9.out.bs.len; rw [HLS.out, hLL]; exact this)⟩
              go_roundw
              case rel => exact ⟨0 + 1, m + 1010000, by go_num, by omega, by omega, HE⟩
              case measure => simp [intOf]; omega
          | false =>
            go_wp2_with (go_at_call 39; refine (item_c HW.out HY.out (by omega) 0 (at0 its 0).1 g (at0 its 0).2 hgd (by omega) (by omega) hbx1 t false false l b HGA.out).mono ?_; rintro e w9 ⟨u9, rfl, hb9⟩; have HB9 := Aside0.mk hb9; clear hb9)
            have HE : Aside0 (RB q qs its y vs gb w2 (outL its y vs (0 + 1)) (m + 1010000) w9) := Aside0.mk ⟨HB9.out.rd, HB9.out.bs.mono (by rw [HLS.out, hLL]; rfl) (by have := HB9.out.bs.len; rw [HLS.out, hLL]; exact this)⟩
            go_roundw
            case rel => exact ⟨0 + 1, m + 1010000, by go_num, by omega, by omega, HE⟩
            case measure => simp [intOf]; omega
      · obtain ⟨g0, g1⟩ := HGA.out _ HR.out.bs.bel
        have c3 := h33 wr HR.out.bs.bel
        have HMW := fun (W : World) (hb : Below wr.heap.size wr W) => Aside0.mk (more_r (HR.out.below hb) (at0 its k).1 k (by omega) (by omega) (by omega))
        have hw1 : IntKind.i64.wrap ((its.length : Int) - 1) = ((its.length - 1 : Nat) : Int) := by rw [IntKind.wrap_i64]; omega
        have hq1 : (((k : Nat) : Int) == ((its.length - 1 : Nat) : Int)) = decide (k = its.length - 1) := by rw [Bool.eq_iff_iff]; simp; omega
        have e1x := e1'
        obtain ⟨ad2, g2, had, e5, e6, e7⟩ := HIT.out (k - 1) _ (at0_eq its (k - 1) (by omega))
        cases had
        replace e5 := pw_cell_below (bw HGB.out HB2.out HR.out.bs.bel) e5
        replace e6 := pw_cell_below (bw HGB.out HB2.out HR.out.bs.bel) e6
        clear e7
        have hw2 : IntKind.i64.wrap ((k : Int) - 1) = ((k - 1 : Nat) : Int) := by rw [IntKind.wrap_i64]; omega
        have hlt1 : k - 1 < its.length := by omega
        have hdk : decide (k = 0) = false := decide_eq_false hz
        have hff : firstF its k = decide ((at0 its (k - 1)).1 < (at0 its k).1) := by unfold firstF; rw [hdk, Bool.false_or]
        have HFF := Aside0.mk (And.intro hdk hff)
        clear hdk hff
        have hk0 : ((k : Int) == 0) = false := by simp; omega
        have hk1 : decide ((k : Int) = 0) = false := decide_eq_false (by omega)
        go_upto_region 7 with fail
        go_cut [6] from 24 to 62 (fun s6 wx => ∃ gh, s6 = .pointer (some ⟨gh, 0, none⟩) ∧ wx.heap[gh]? = some (.cells #[.bool (decide (k = 0)), .bool (firstF its k), .bool false, .bool (lastF its k), .bool (decide (k = its.length - 1))] 77 (0, 0)) ∧ Below wr.heap.size wr wx ∧ wr.heap.size ≤ gh)
        case first =>
          clear e1x
          refine wp_region_held_drew (S := fun w' => w'.cell? ⟨q, 3, none⟩ = some (.slice (some ad) its.length ci) ∧ w'.cell? ⟨g, 0, none⟩ = some (.int .i64 ((at0 its k).1 : Int)) ∧ w'.cell? (ad.add (k - 1)) = some (.pointer (some ⟨g2, 0, none⟩)) ∧ w'.cell? ⟨g2, 0, none⟩ = some (.int .i64 ((at0 its (k - 1)).1 : Int))) (by kernel_rfl) ⟨c3, g0, e5, e6⟩ (fun hHeld => ?_)
          have hAl : ∀ o, (fun w' => w'.cell? ⟨q, 3, none⟩ = some (.slice (some ad) its.length ci) ∧ w'.cell? ⟨g, 0, none⟩ = some (.int .i64 ((at0 its k).1 : Int)) ∧ w'.cell? (ad.add (k - 1)) = some (.pointer (some ⟨g2, 0, none⟩)) ∧ w'.cell? ⟨g2, 0, none⟩ = some (.int .i64 ((at0 its (k - 1)).1 : Int))) (wr.drew.alloc o) := fun o => ⟨pw_cell_below (below_alloc (Below.refl _ _) o) hHeld.1, pw_cell_below (below_alloc (Below.refl _ _) o) hHeld.2.1, pw_cell_below (below_alloc (Below.refl _ _) o) hHeld.2.2.1, pw_cell_below (below_alloc (Below.refl _ _) o) hHeld.2.2.2⟩
          refine tk0 (v := ?_) (by kernel_rfl) (by kernel_rfl) (by kernel_rfl) (fun _ _ _ h => h) (Or.inl ⟨by rfl, ?_⟩) hHeld ?_
          rotate_left
          · (intro w hSw; obtain ⟨k1, k2, k3, k4⟩ := hSw; go_simp; first | with_reducible rfl | exact hw1 | exact hq1 | exact hw2 | skip)
          try simp only [Act.put, List.setIfInBounds_toArray, List.set_cons_zero, List.set_cons_succ]
          refine tk1 (v := .bool false) (by kernel_rfl) (by kernel_rfl) (by kernel_rfl) (fun _ _ _ h => h) (Or.inl ⟨by rfl, ?_⟩) hHeld ?_
          skip
          · (intro w hSw; obtain ⟨k1, k2, k3, k4⟩ := hSw; go_simp; first | with_reducible rfl | exact hw1 | exact hq1 | exact hw2 | skip)
          try simp only [Act.put, List.setIfInBounds_toArray, List.set_cons_zero, List.set_cons_succ]
          refine tk2 (v := ?_) (by kernel_rfl) (by kernel_rfl) (by kernel_rfl) (fun _ _ _ h => h) (Or.inl ⟨by rfl, ?_⟩) hHeld ?_
          rotate_left
          · (intro w hSw; obtain ⟨k1, k2, k3, k4⟩ := hSw; go_simp; first | with_reducible rfl | exact hw1 | exact hq1 | exact hw2 | skip)
          try simp only [Act.put, List.setIfInBounds_toArray, List.set_cons_zero, List.set_cons_succ]
          refine tk3 (v := .bool false) (by kernel_rfl) (by kernel_rfl) (by kernel_rfl) (fun _ _ _ h => h) (Or.inl ⟨by rfl, ?_⟩) hHeld ?_
          skip
          · (intro w hSw; obtain ⟨k1, k2, k3, k4⟩ := hSw; go_simp; first | with_reducible rfl | exact hw1 | exact hq1 | exact hw2 | skip)
          try simp only [Act.put, List.setIfInBounds_toArray, List.set_cons_zero, List.set_cons_succ]
          refine tk4 (v := ?_) (by kernel_rfl) (by kernel_rfl) (by kernel_rfl) (fun _ _ _ h => h) (Or.inl ⟨by rfl, ?_⟩) hHeld ?_
          rotate_left
          · (intro w hSw; obtain ⟨k1, k2, k3, k4⟩ := hSw; go_simp; first | with_reducible rfl | exact hw1 | exact hq1 | exact hw2 | skip)
          try simp only [Act.put, List.setIfInBounds_toArray, List.set_cons_zero, List.set_cons_succ]
          refine tk5 (v := ?_) (by kernel_rfl) (by kernel_rfl) (by kernel_rfl) (fun _ _ _ h => h) (Or.inl ⟨by rfl, ?_⟩) hHeld ?_
          rotate_left
          · (intro w hSw; obtain ⟨k1, k2, k3, k4⟩ := hSw; go_simp; first | with_reducible rfl | exact hw1 | exact hq1 | exact hw2 | skip)
          try simp only [Act.put, List.setIfInBounds_toArray, List.set_cons_zero, List.set_cons_succ]
          refine tk6 (v := ?_) (by kernel_rfl) (by kernel_rfl) (by kernel_rfl) (fun _ _ _ h => h) (Or.inl ⟨by rfl, ?_⟩) hHeld ?_
          rotate_left
          · (intro w hSw; obtain ⟨k1, k2, k3, k4⟩ := hSw; go_simp; first | with_reducible rfl | exact hw1 | exact hq1 | exact hw2 | skip)
          try simp only [Act.put, List.setIfInBounds_toArray, List.set_cons_zero, List.set_cons_succ]
          refine tk7 (v := ?_) (by kernel_rfl) (by kernel_rfl) (by kernel_rfl) (fun _ _ _ h => h) (Or.inl ⟨by rfl, ?_⟩) hHeld ?_
          rotate_left
          · (intro w hSw; obtain ⟨k1, k2, k3, k4⟩ := hSw; go_simp; first | with_reducible rfl | exact hw1 | exact hq1 | exact hw2 | skip)
          try simp only [Act.put, List.setIfInBounds_toArray, List.set_cons_zero, List.set_cons_succ]
          refine tk8 (v := ?_) (by kernel_rfl) (by kernel_rfl) (by kernel_rfl) (fun _ _ _ h => h) (Or.inl ⟨by rfl, ?_⟩) hHeld ?_
          rotate_left
          · (intro w hSw; obtain ⟨k1, k2, k3, k4⟩ := hSw; go_simp; first | with_reducible rfl | exact hw1 | exact hq1 | exact hw2 | skip)
          try simp only [Act.put, List.setIfInBounds_toArray, List.set_cons_zero, List.set_cons_succ]
          refine tk9 (v := ?_) (by kernel_rfl) (by kernel_rfl) (by kernel_rfl) (fun _ _ _ h => h) (Or.inl ⟨by rfl, ?_⟩) hHeld ?_
          rotate_left
          · (intro w hSw; obtain ⟨k1, k2, k3, k4⟩ := hSw; go_simp; first | with_reducible rfl | exact hw1 | exact hq1 | exact hw2 | skip)
          try simp only [Act.put, List.setIfInBounds_toArray, List.set_cons_zero, List.set_cons_succ]
          refine tk10 (v := ?_) (by kernel_rfl) (by kernel_rfl) (by kernel_rfl) (fun _ _ _ h => h) (Or.inl ⟨by rfl, ?_⟩) hHeld ?_
          rotate_left
          · (intro w hSw; obtain ⟨k1, k2, k3, k4⟩ := hSw; go_simp; first | with_reducible rfl | exact hw1 | exact hq1 | exact hw2 | skip)
          try simp only [Act.put, List.setIfInBounds_toArray, List.set_cons_zero, List.set_cons_succ]
          refine tk11 (v := ?_) (by kernel_rfl) (by kernel_rfl) (by kernel_rfl) (fun _ _ _ h => h) (Or.inl ⟨by rfl, ?_⟩) hHeld ?_
          rotate_left
          · (intro w hSw; obtain ⟨k1, k2, k3, k4⟩ := hSw; go_simp; first | with_reducible rfl | exact hw1 | exact hq1 | exact hw2 | skip)
          try simp only [Act.put, List.setIfInBounds_toArray, List.set_cons_zero, List.set_cons_succ]
          refine tk12 (v := ?_) (by kernel_rfl) (by kernel_rfl) (by kernel_rfl) (fun _ _ _ h => h) (Or.inl ⟨by rfl, ?_⟩) hHeld ?_
          rotate_left
          · (intro w hSw; obtain ⟨k1, k2, k3, k4⟩ := hSw; go_simp; first | with_reducible rfl | exact hw1 | exact hq1 | exact hw2 | skip)
          try simp only [Act.put, List.setIfInBounds_toArray, List.set_cons_zero, List.set_cons_succ]
          refine tk13 (v := ?_) (by kernel_rfl) (by kernel_rfl) (by kernel_rfl) (fun _ _ _ h => h) (Or.inl ⟨by rfl, ?_⟩) hHeld ?_
          rotate_left
          · (intro w hSw; obtain ⟨k1, k2, k3, k4⟩ := hSw; go_simp; first | with_reducible rfl | exact hw1 | exact hq1 | exact hw2 | skip)
          try simp only [Act.put, List.setIfInBounds_toArray, List.set_cons_zero, List.set_cons_succ]
          refine tk14 (v := .int .i64 (((k - 1 : Nat)) : Int)) (by kernel_rfl) (by kernel_rfl) (by kernel_rfl) (fun _ _ _ h => h) (Or.inl ⟨by rfl, ?_⟩) hHeld ?_
          skip
          · (intro w hSw; obtain ⟨k1, k2, k3, k4⟩ := hSw; go_simp; first | with_reducible rfl | exact hw1 | exact hq1 | exact hw2 | skip)
          try simp only [Act.put, List.setIfInBounds_toArray, List.set_cons_zero, List.set_cons_succ]
          refine tk15 (v := ?_) (by kernel_rfl) (by kernel_rfl) (by kernel_rfl) (fun _ _ _ h => h) (Or.inl ⟨by rfl, ?_⟩) hHeld ?_
          rotate_left
          · (intro w hSw; obtain ⟨k1, k2, k3, k4⟩ := hSw; go_simp; first | with_reducible rfl | exact hw1 | exact hq1 | exact hw2 | skip)
          try simp only [Act.put, List.setIfInBounds_toArray, List.set_cons_zero, List.set_cons_succ]
          refine tk16 (v := ?_) (by kernel_rfl) (by kernel_rfl) (by kernel_rfl) (fun _ _ _ h => h) (Or.inl ⟨by rfl, ?_⟩) hHeld ?_
          rotate_left
          · (intro w hSw; obtain ⟨k1, k2, k3, k4⟩ := hSw; go_simp; first | with_reducible rfl | exact hw1 | exact hq1 | exact hw2 | skip)
          try simp only [Act.put, List.setIfInBounds_toArray, List.set_cons_zero, List.set_cons_succ]
          refine tk17 (v := ?_) (by kernel_rfl) (by kernel_rfl) (by kernel_rfl) (fun _ _ _ h => h) (Or.inl ⟨by rfl, ?_⟩) hHeld ?_
          rotate_left
          · (intro w hSw; obtain ⟨k1, k2, k3, k4⟩ := hSw; go_simp; first | with_reducible rfl | exact hw1 | exact hq1 | exact hw2 | skip)
          try simp only [Act.put, List.setIfInBounds_toArray, List.set_cons_zero, List.set_cons_succ]
          refine tk18 (v := ?_) (by kernel_rfl) (by kernel_rfl) (by kernel_rfl) (fun _ _ _ h => h) (Or.inl ⟨by rfl, ?_⟩) hHeld ?_
          rotate_left
          · (intro w hSw; obtain ⟨k1, k2, k3, k4⟩ := hSw; go_simp; first | with_reducible rfl | exact hw1 | exact hq1 | exact hw2 | skip)
          try simp only [Act.put, List.setIfInBounds_toArray, List.set_cons_zero, List.set_cons_succ]
          refine tk19 (v := ?_) (by kernel_rfl) (by kernel_rfl) (by kernel_rfl) (fun _ _ _ h => h) (Or.inl ⟨by rfl, ?_⟩) hHeld ?_
          rotate_left
          · (intro w hSw; obtain ⟨k1, k2, k3, k4⟩ := hSw; go_simp; first | with_reducible rfl | exact hw1 | exact hq1 | exact hw2 | skip)
          try simp only [Act.put, List.setIfInBounds_toArray, List.set_cons_zero, List.set_cons_succ]
          refine tk20 (v := ?_) (by kernel_rfl) (by kernel_rfl) (by kernel_rfl) (fun _ _ _ h => h) (Or.inl ⟨by rfl, ?_⟩) hHeld ?_
          rotate_left
          · (intro w hSw; obtain ⟨k1, k2, k3, k4⟩ := hSw; go_simp; first | with_reducible rfl | exact hw1 | exact hq1 | exact hw2 | skip)
          try simp only [Act.put, List.setIfInBounds_toArray, List.set_cons_zero, List.set_cons_succ]
          refine tk21 (v := ?_) (by kernel_rfl) (by kernel_rfl) (by kernel_rfl) (fun _ _ _ h => h) (Or.inl ⟨by rfl, ?_⟩) hHeld ?_
          rotate_left
          · (intro w hSw; obtain ⟨k1, k2, k3, k4⟩ := hSw; go_simp; first | with_reducible rfl | exact hw1 | exact hq1 | exact hw2 | skip)
          try simp only [Act.put, List.setIfInBounds_toArray, List.set_cons_zero, List.set_cons_succ]
          refine tk22 (v := ?_) (by kernel_rfl) (by kernel_rfl) (by kernel_rfl) (fun _ _ _ h => h) (Or.inl ⟨by rfl, ?_⟩) hHeld ?_
          rotate_left
          · (intro w hSw; obtain ⟨k1, k2, k3, k4⟩ := hSw; go_simp; first | with_reducible rfl | exact hw1 | exact hq1 | exact hw2 | skip)
          try simp only [Act.put, List.setIfInBounds_toArray, List.set_cons_zero, List.set_cons_succ]
          refine tk23 (v := ?_) (by kernel_rfl) (by kernel_rfl) (by kernel_rfl) (fun _ _ _ h => h) (Or.inl ⟨by rfl, ?_⟩) hHeld ?_
          rotate_left
          · (intro w hSw; obtain ⟨k1, k2, k3, k4⟩ := hSw; go_simp; first | with_reducible rfl | exact hw1 | exact hq1 | exact hw2 | skip)
          try simp only [Act.put, List.setIfInBounds_toArray, List.set_cons_zero, List.set_cons_succ]
          refine tk24 (v := ?_) (by kernel_rfl) (by kernel_rfl) (by kernel_rfl) (fun _ _ _ h => h) (Or.inl ⟨by rfl, ?_⟩) hHeld ?_
          rotate_left
          · (intro w hSw; obtain ⟨k1, k2, k3, k4⟩ := hSw; go_simp; first | with_reducible rfl | exact hw1 | exact hq1 | exact hw2 | skip)
          try simp only [Act.put, List.setIfInBounds_toArray, List.set_cons_zero, List.set_cons_succ]
          refine tk25 (v := ?_) (by kernel_rfl) (by kernel_rfl) (by kernel_rfl) (fun _ _ _ h => h) (Or.inl ⟨by rfl, ?_⟩) hHeld ?_
          rotate_left
          · (intro w hSw; obtain ⟨k1, k2, k3, k4⟩ := hSw; go_simp; first | with_reducible rfl | exact hw1 | exact hq1 | exact hw2 | skip)
          try simp only [Act.put, List.setIfInBounds_toArray, List.set_cons_zero, List.set_cons_succ]
          refine tk26 (v := ?_) (by kernel_rfl) (by kernel_rfl) (by kernel_rfl) (fun _ _ _ h => h) (Or.inl ⟨by rfl, ?_⟩) hHeld ?_
          rotate_left
          · (intro w hSw; obtain ⟨k1, k2, k3, k4⟩ := hSw; go_simp; first | with_reducible rfl | exact hw1 | exact hq1 | exact hw2 | skip)
          try simp only [Act.put, List.setIfInBounds_toArray, List.set_cons_zero, List.set_cons_succ]
          refine tk27 (v := ?_) (by kernel_rfl) (by kernel_rfl) (by kernel_rfl) (fun _ _ _ h => h) (Or.inl ⟨by rfl, ?_⟩) hHeld ?_
          rotate_left
          · (intro w hSw; obtain ⟨k1, k2, k3, k4⟩ := hSw; go_simp; first | with_reducible rfl | exact hw1 | exact hq1 | exact hw2 | skip)
          try simp only [Act.put, List.setIfInBounds_toArray, List.set_cons_zero, List.set_cons_succ]
          refine tk30 (v := ?_) (by kernel_rfl) (by kernel_rfl) (by kernel_rfl) (fun _ _ _ h => h) (Or.inl ⟨by rfl, ?_⟩) hHeld ?_
          rotate_left
          · (intro w hSw; obtain ⟨k1, k2, k3, k4⟩ := hSw; go_simp; first | with_reducible rfl | exact hw1 | exact hq1 | exact hw2 | skip)
          try simp only [Act.put, List.setIfInBounds_toArray, List.set_cons_zero, List.set_cons_succ]
          refine tk31 (v := ?_) (by kernel_rfl) (by kernel_rfl) (by kernel_rfl) (fun _ _ _ h => h) (Or.inl ⟨by rfl, ?_⟩) hHeld ?_
          rotate_left
          · (intro w hSw; obtain ⟨k1, k2, k3, k4⟩ := hSw; go_simp; first | with_reducible rfl | exact hw1 | exact hq1 | exact hw2 | skip)
          try simp only [Act.put, List.setIfInBounds_toArray, List.set_cons_zero, List.set_cons_succ]
          refine tk32 (v := ?_) (by kernel_rfl) (by kernel_rfl) (by kernel_rfl) (fun _ _ _ h => h) (Or.inl ⟨by rfl, ?_⟩) hHeld ?_
          rotate_left
          · (intro w hSw; obtain ⟨k1, k2, k3, k4⟩ := hSw; go_simp; first | with_reducible rfl | exact hw1 | exact hq1 | exact hw2 | skip)
          try simp only [Act.put, List.setIfInBounds_toArray, List.set_cons_zero, List.set_cons_succ]
          refine tk33 (v := ?_) (by kernel_rfl) (by kernel_rfl) (by kernel_rfl) (fun _ _ _ h => h) (Or.inl ⟨by rfl, ?_⟩) hHeld ?_
          rotate_left
          · (intro w hSw; obtain ⟨k1, k2, k3, k4⟩ := hSw; go_simp; first | with_reducible rfl | exact hw1 | exact hq1 | exact hw2 | skip)
          try simp only [Act.put, List.setIfInBounds_toArray, List.set_cons_zero, List.set_cons_succ]
          refine tk34 (v := ?_) (by kernel_rfl) (by kernel_rfl) (by kernel_rfl) (fun _ _ _ h => h) (Or.inl ⟨by rfl, ?_⟩) hHeld ?_
          rotate_left
          · (intro w hSw; obtain ⟨k1, k2, k3, k4⟩ := hSw; go_simp; first | with_reducible rfl | exact hw1 | exact hq1 | exact hw2 | skip)
          try simp only [Act.put, List.setIfInBounds_toArray, List.set_cons_zero, List.set_cons_succ]
          refine tk35 (v := ?_) (by kernel_rfl) (by kernel_rfl) (by kernel_rfl) (fun _ _ _ h => h) (Or.inl ⟨by rfl, ?_⟩) hHeld ?_
          rotate_left
          · (intro w hSw; obtain ⟨k1, k2, k3, k4⟩ := hSw; go_simp; first | with_reducible rfl | exact hw1 | exact hq1 | exact hw2 | skip)
          try simp only [Act.put, List.setIfInBounds_toArray, List.set_cons_zero, List.set_cons_succ]
          refine tk36 (v := .int .i64 (((its.length - 1 : Nat)) : Int)) (by kernel_rfl) (by kernel_rfl) (by kernel_rfl) (fun _ _ _ h => h) (Or.inl ⟨by rfl, ?_⟩) hHeld ?_
          skip
          · (intro w hSw; obtain ⟨k1, k2, k3, k4⟩ := hSw; go_simp; first | with_reducible rfl | exact hw1 | exact hq1 | exact hw2 | skip)
          try simp only [Act.put, List.setIfInBounds_toArray, List.set_cons_zero, List.set_cons_succ]
          refine tk37 (v := .bool (decide (k = its.length - 1))) (by kernel_rfl) (by kernel_rfl) (by kernel_rfl) (fun _ _ _ h => h) (Or.inl ⟨by rfl, ?_⟩) hHeld ?_
          skip
          · (intro w hSw; obtain ⟨k1, k2, k3, k4⟩ := hSw; go_simp; first | with_reducible rfl | exact hw1 | exact hq1 | exact hw2 | skip)
          try simp only [Act.put, List.setIfInBounds_toArray, List.set_cons_zero, List.set_cons_succ]
          refine ac28_39 (by kernel_rfl) (fun K hK => ?_) (fun K hK => ?_)
          · go_simp
            (go_at_call 38; refine (HMW _ (below_drew1 (Below.refl _ _))).out.mono ?_; rintro e wy ⟨rfl, hw⟩; replace hw := hw.symm; subst hw)
            try go_wp2_with fail
            refine hK.out _ _ hHeld (fun hHeld => ?_)
            clear hK K
            try simp only [Act.put, List.setIfInBounds_toArray, List.set_cons_zero, List.set_cons_succ]
            refine tk29 (v := ?_) (by kernel_rfl) (by kernel_rfl) (by kernel_rfl) (fun _ _ _ h => h) (Or.inl ⟨by rfl, ?_⟩) hHeld ?_
            rotate_left
            · (intro w hSw; obtain ⟨k1, k2, k3, k4⟩ := hSw; go_simp; first | with_reducible rfl | exact hw1 | exact hq1 | exact hw2 | skip)
            try simp only [Act.put, List.setIfInBounds_toArray, List.set_cons_zero, List.set_cons_succ]
            refine tk38 (v := ?_) (by kernel_rfl) (by kernel_rfl) (by kernel_rfl) (fun _ _ _ h => h) (Or.inl ⟨by rfl, ?_⟩) hHeld ?_
            rotate_left
            · (intro w hSw; obtain ⟨k1, k2, k3, k4⟩ := hSw; go_simp; first | with_reducible rfl | exact hw1 | exact hq1 | exact hw2 | skip)
            try simp only [Act.put, List.setIfInBounds_toArray, List.set_cons_zero, List.set_cons_succ]
            refine ac39 (by kernel_rfl) (fun K hK => ?_)
            go_simp
            refine hK.out _ _ (hAl _) (fun hHeld => ?_)
            clear hK K
            try simp only [Act.put, List.setIfInBounds_toArray, List.set_cons_zero, List.set_cons_succ]
            refine ac40 (by kernel_rfl) (fun K hK => ?_)
            go_simp
            refine hK.out _ _ (hAl _) (fun hHeld => ?_)
            clear hK K
            refine wpAnyH_done (by kernel_rfl) ?_ _
            try simp only [Act.put, List.setIfInBounds_toArray, List.set_cons_zero, List.set_cons_succ]
            go_wp2_with fail
            go_meet
            exact ⟨wr.heap.size, rfl, by rw [HFF.out.1, HFF.out.2]; exact heap_alloc_new wr _, below_drew1 (below_alloc (Below.refl _ _) _), Nat.le_refl _⟩
          · go_simp
            refine hK.out _ _ (hAl _) (fun hHeld => ?_)
            clear hK K
            try simp only [Act.put, List.setIfInBounds_toArray, List.set_cons_zero, List.set_cons_succ]
            refine ac28 (by kernel_rfl) (fun K hK => ?_)
            go_simp
            (go_at_call 38; refine (HMW _ (below_drew1 (below_alloc (Below.refl _ _) _))).out.mono ?_; rintro e wy ⟨rfl, hw⟩; replace hw := hw.symm; subst hw)
            try go_wp2_with fail
            refine hK.out _ _ hHeld (fun hHeld => ?_)
            clear hK K
            try simp only [Act.put, List.setIfInBounds_toArray, List.set_cons_zero, List.set_cons_succ]
            refine tk29 (v := ?_) (by kernel_rfl) (by kernel_rfl) (by kernel_rfl) (fun _ _ _ h => h) (Or.inl ⟨by rfl, ?_⟩) hHeld ?_
            rotate_left
            · (intro w hSw; obtain ⟨k1, k2, k3, k4⟩ := hSw; go_simp; first | with_reducible rfl | exact hw1 | exact hq1 | exact hw2 | skip)
            try simp only [Act.put, List.setIfInBounds_toArray, List.set_cons_zero, List.set_cons_succ]
            refine tk38 (v := ?_) (by kernel_rfl) (by kernel_rfl) (by kernel_rfl) (fun _ _ _ h => h) (Or.inl ⟨by rfl, ?_⟩) hHeld ?_
            rotate_left
            · (intro w hSw; obtain ⟨k1, k2, k3, k4⟩ := hSw; go_simp; first | with_reducible rfl | exact hw1 | exact hq1 | exact hw2 | skip)
            try simp only [Act.put, List.setIfInBounds_toArray, List.set_cons_zero, List.set_cons_succ]
            refine ac40 (by kernel_rfl) (fun K hK => ?_)
            go_simp
            refine hK.out _ _ (hAl _) (fun hHeld => ?_)
            clear hK K
            refine wpAnyH_done (by kernel_rfl) ?_ _
            try simp only [Act.put, List.setIfInBounds_toArray, List.set_cons_zero, List.set_cons_succ]
            go_wp2_with fail
            go_meet
            exact ⟨wr.heap.size, rfl, by rw [HFF.out.1, HFF.out.2]; exact heap_alloc_new wr _, below_drew1 (below_alloc (Below.refl _ _) _), Nat.le_refl _⟩
        case rest =>
          obtain ⟨gh, rfl, hgh, hbx2, hghw⟩ := hcut
          have HW := Aside0.mk (HR.out.below hbx2)
          have HGH := Aside0.mk hgh
          have hBg := Nat.le_trans HR.out.bs.here hghw
          have hgd := hbx.2
          have hLL : lineL its y vs k = itemL its y vs k (at0 its k).1 (at0 its k).2 (decide (k = 0)) (firstF its k) (firstF its k && lastF its k) (lastF its k) (decide (k = its.length - 1)) := rfl
          clear hbx2 hghw HMW HIT g0 g1 c3 e1x hbx e5 e6
          generalize firstF its k = f at *
          generalize lastF its k = l at *
          generalize decide (k = its.length - 1) = b at *
          generalize decide (k = 0) = t at *
          have hcz0 : wc.cell? ⟨gh, 0, none⟩ = some (.bool t) := (blk_cell HGH.out 0).trans rfl
          have hcz1 : wc.cell? ⟨gh, 1, none⟩ = some (.bool f) := (blk_cell HGH.out 1).trans rfl
          have hcz2 : wc.cell? ⟨gh, 2, none⟩ = some (.bool false) := (blk_cell HGH.out 2).trans rfl
          have hcz3 : wc.cell? ⟨gh, 3, none⟩ = some (.bool l) := (blk_cell HGH.out 3).trans rfl
          have hcz4 : wc.cell? ⟨gh, 4, none⟩ = some (.bool b) := (blk_cell HGH.out 4).trans rfl
          have hfz2 := blk_frozen HGH.out 2
          have HWS := Aside0.mk (HW.out.hint HGH.out hBg 2 (.bool true))
          cases f with
          | true =>
            cases l with
            | true =>
              go_wp2_with (go_at_call 39; refine (item_c HWS.out HY.out (by omega) k (at0 its k).1 g (at0 its k).2 hgd (by omega) (by omega) hbx1 t true true true b HGA.out).mono ?_; rintro e w9 ⟨u9, rfl, hb9⟩; have HB9 := Aside0.mk hb9; clear hb9)
              have HE : Aside0 (RB q qs its y vs gb w2 (outL its y vs (k + 1)) (m + 1010000) w9) := Aside0.mk ⟨HB9.out.rd, HB9.out.bs.mono (by rw [HLS.out, hLL]; rfl) (by have := HB9.out.bs.len; rw [HLS.out, hLL]; exact this)⟩
              go_roundw
              case rel => exact ⟨k + 1, m + 1010000, by go_num, by omega, by omega, HE⟩
              case measure => simp [intOf]; omega
            | false =>
              go_wp2_with (go_at_call 39; refine (item_c HW.out HY.out (by omega) k (at0 its k).1 g (at0 its k).2 hgd (by omega) (by omega) hbx1 t true false false b HGA.out).mono ?_; rintro e w9 ⟨u9, rfl, hb9⟩; have HB9 := Aside0.mk hb9; clear hb9)
              have HE : Aside0 (RB q qs its y vs gb w2 (outL its y vs (k + 1)) (m + 1010000) w9) := Aside0.mk ⟨HB9.out.rd, HB9.out.bs.mono (by rw [HLS.out, hLL]; rfl) (by have := HB9.out.bs.len; rw [HLS.out, hLL]; exact this)⟩
              go_roundw
              case rel => exact ⟨k + 1, m + 1010000, by go_num, by omega, by omega, HE⟩
              case measure => simp [intOf]; omega
          | false =>
            go_wp2_with (go_at_call 39; refine (item_c HW.out HY.out (by omega) k (at0 its k).1 g (at0 its k).2 hgd (by omega) (by omega) hbx1 t false false l b HGA.out).mono ?_; rintro e w9 ⟨u9, rfl, hb9⟩; have HB9 := Aside0.mk hb9; clear hb9)
            have HE : Aside0 (RB q qs its y vs gb w2 (outL its y vs (k + 1)) (m + 1010000) w9) := Aside0.mk ⟨HB9.out.rd, HB9.out.bs.mono (by rw [HLS.out, hLL]; rfl) (by have := HB9.out.bs.len; rw [HLS.out, hLL]; exact this)⟩
            go_roundw
            case rel => exact ⟨k + 1, m + 1010000, by go_num, by omega, by omega, HE⟩
            case measure => simp [intOf]; omega
    · obtain rfl : k = its.length := by omega
      have hltg : ¬ its.length < its.length := by omega
      go_wp2_with (go_at_call 40; refine (rend_c _ HR.out).mono ?_; rintro e w9 ⟨rfl, hb9⟩)
      go_ret
      exact ⟨rfl, hbw.trans ((bw HGB.out HB2.out hb9).mono hsz)⟩
end
end Go.Proofs.YtphnnbbgcnilgaaDoor.LstK
