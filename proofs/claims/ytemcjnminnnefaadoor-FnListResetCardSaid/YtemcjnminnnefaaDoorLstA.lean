/-
  Proved: a list writer's state carried from call to call: what analyzeAndStringify makes. Conditions: texts without tabs and line ends.
-/
import Derived.Test.YtemcjnminnnefaaDoorLstR
namespace Go.Proofs.YtemcjnminnnefaaDoor.LstA
open Go.RowKit Go.Proofs.YtemcjnminnnefaaDoorW.PrintWords Go.Proofs.YtemcjnminnnefaaDoor.Common Go.Proofs.YtemcjnminnnefaaDoor.GEL Go.Proofs.YtemcjnminnnefaaDoor.LstT
set_option linter.unusedVariables false
set_option linter.unusedSimpArgs false
set_option maxRecDepth 1000000

abbrev PK : Kd Nat := Kd.scalar (fun g => .pointer (some ⟨g, 0, none⟩)) (fun _ => rfl)
/-- the writer in block q: its items, how deep the next one stands -/
structure LS (B : Nat) (w0 : World) (q : Nat) (gs : List Nat) (its : List (Nat × ByteArray)) (lev : Nat) (v : Value) (w : World) : Prop where
  hq : w.heap[q]? = some (.cells #[.int .i64 0, .string ⟨#[]⟩, .string ⟨#[]⟩, v, .int .i64 (lev : Int), .pointer none] 44 (0, 0))
  row : Kd.R PK 53 w B (fun _ => True) v gs
  el : ∀ (i g : Nat) (it : Nat × ByteArray), gs[i]? = some g → its[i]? = some it → w.heap[g]? = some (.cells #[.int .i64 (it.1 : Int), .string it.2] 55 (0, 0)) ∧ B ≤ g
  len : gs.length = its.length
  bel : Below B w0 w
  bq : B ≤ q
theorem LS.below {B : Nat} {w0 : World} {q : Nat} {gs : List Nat} {its : List (Nat × ByteArray)} {lev : Nat} {v : Value} {w w' : World} (h : LS B w0 q gs its lev v w) (hB : B ≤ w.heap.size) (hb : Below w.heap.size w w') : LS B w0 q gs its lev v w' :=
  ⟨(hb.block _ (Array.getElem?_eq_some_iff.1 h.hq).1).trans h.hq, Kd.R_below h.row hb, fun i g it h1 h2 => ⟨(hb.block _ (Array.getElem?_eq_some_iff.1 (h.el i g it h1 h2).1).1).trans (h.el i g it h1 h2).1, (h.el i g it h1 h2).2⟩, h.len, h.bel.trans (hb.mono hB), h.bq⟩
theorem analyze_c (q lev : Nat) (s : ByteArray) (hs : good s) (w : World) (X : Array Value) (hq : w.heap[q]? = some (.cells X 44 (0, 0))) (h4 : X[4]? = some (.int .i64 (lev : Int))) :
    Calls Tryd.prog 28 #[.pointer (some ⟨q, 0, none⟩), .iface 9 (.string s)] w fun e w' => ∃ g, e = .returned (.pointer (some ⟨g, 0, none⟩)) ∧ w'.heap[g]? = some (.cells #[.int .i64 (lev : Int), .string s] 55 (0, 0)) ∧ w.heap.size ≤ g ∧ Below w.heap.size w w' := by
  have H1 := fun W => Aside0.mk (text_c s W)
  have H2 := fun W => Aside0.mk (replL_c s ⟨#[32, 32, 32, 32]⟩ hs.1 (by show 4 ≤ 1000; omega) 9 (fun d hd => (hs.2 d hd).1) W)
  have H3 := fun W => Aside0.mk (crlf_c s hs W)
  have hlt := (Array.getElem?_eq_some_iff.1 hq).1
  have hc : w.cell? ⟨q, 4, none⟩ = some (.int .i64 (lev : Int)) := (cell_of_row _ _ _ _ _ _ hq).trans h4
  have HC : ∀ W, Below w.heap.size w W → W.cell? ⟨q, 4, none⟩ = some (.int .i64 (lev : Int)) := fun W hb => pw_cell_below hb hc
  clear hs hq h4
  go_enter Tryd.func28, Tryd.ntmps28
  go_wp2_with (first
    | (go_at_call 43; refine (H1 _).out.mono ?_; rintro e w1 ⟨rfl, hw⟩; replace hw := hw.symm; subst hw)
    | (go_at_call 37; refine (H2 _).out.mono ?_; rintro e w2 ⟨rfl, hb⟩; have HB2 := Aside0.mk hb; clear hb)
    | (go_at_call 44; refine (H3 _).out.mono ?_; rintro e w3 ⟨rfl, hb⟩; have HB3 := Aside0.mk (below_then HB2.out HB2.out.size hb); clear hb; have hc3 := HC _ HB3.out))
  go_ret
  exact ⟨w3.heap.size, rfl, heap_alloc_new w3 _, HB3.out.size, below_alloc HB3.out _⟩
end Go.Proofs.YtemcjnminnnefaaDoor.LstA
