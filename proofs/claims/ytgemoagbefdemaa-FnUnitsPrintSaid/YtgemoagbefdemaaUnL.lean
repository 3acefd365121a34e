/-
  Proved: what progress.FormatNumber and FormatBytes return, as plain functions of the value. Conditions: as told.
-/
import Derived.Test.YtgemoagbefdemaaUnK
namespace Go.Proofs.Ytgemoagbefdemaa.UnL
open Go.RowKit Go.Proofs.YtgemoagbefdemaaW.PrintWords Go.Proofs.Ytgemoagbefdemaa.Common Go.Proofs.Ytgemoagbefdemaa.IMap Go.Proofs.Ytgemoagbefdemaa.UnK
set_option linter.unusedVariables false
set_option linter.unusedSimpArgs false
set_option maxRecDepth 1000000
theorem imap_congr {w : World} {q : IntKind} {b : Nat} {f g : Int → Option Value} (h : imap w q b f) (e : ∀ k, f k = g k) : imap w q b g := by
  have : f = g := funext e
  rw [← this]
  exact h
theorem ins_step {ops : Array Oper} {rest : List Oper} {o : Oper} {a : Act} {Q : Exit → Act → World → Prop} {w0 W : World} {f : Int → Option Value} {n : Int} {s : ByteArray}
    (HI : Aside0 (imap W .i64 w0.heap.size f)) (HB : Aside0 (Below w0.heap.size w0 W)) (hg : o.guard = none) (hop : o.op = Op.insert 30 (.tmp 4) (.const (.int .i64 n)) (.const (.string s))) (hm : a.eval (.tmp 4) = .map (some w0.heap.size)) (hw : (Lit.int .i64 n).wf = true)
    (hK : ∀ w', Aside0 (imap w' .i64 w0.heap.size (fun m => if m = n then some (.string s) else f m)) → Aside0 (Below w0.heap.size w0 w') → wpList Try.prog ops Q rest (a.put o.dst undef) w') :
    wpList Try.prog ops Q (o :: rest) a W := by
  refine wp_insert hg (.tmp 4) _ _ hop Try.underlying30 Try.underlying2 hm HI.out n rfl hw fun w' h1 h2 => ?_
  exact hK w' ⟨h1⟩ ⟨HB.out.grown h2 HB.out.size (fun k hk => by cases hk; exact Nat.le_refl _)⟩
def txN (k : Int) : ByteArray :=
  if k = 1000000000000000 then ⟨#[81]⟩ else if k = 1000000000000 then ⟨#[84]⟩ else if k = 1000000000 then ⟨#[66]⟩ else if k = 1000000 then ⟨#[77]⟩ else if k = 1000 then ⟨#[75]⟩ else ⟨#[]⟩
theorem txN_size (k : Int) : (txN k).size ≤ 10 := by
  unfold txN
  repeat' split
  all_goals decide
theorem mapN (k : Int) : (if k = 0 then some (Value.string ⟨#[]⟩) else if k = 1000 then some (Value.string ⟨#[75]⟩) else if k = 1000000 then some (Value.string ⟨#[77]⟩) else if k = 1000000000 then some (Value.string ⟨#[66]⟩) else if k = 1000000000000 then some (Value.string ⟨#[84]⟩) else if k = 1000000000000000 then some (Value.string ⟨#[81]⟩) else none) = txm txN k := by
  by_cases h0 : k = 0
  · subst h0; rfl
  by_cases h1000 : k = 1000
  · subst h1000; rfl
  by_cases h1000000 : k = 1000000
  · subst h1000000; rfl
  by_cases h1000000000 : k = 1000000000
  · subst h1000000000; rfl
  by_cases h1000000000000 : k = 1000000000000
  · subst h1000000000000; rfl
  by_cases h1000000000000000 : k = 1000000000000000
  · subst h1000000000000000; rfl
  unfold txm sc
  simp [h1000000000000000, h1000000000000, h1000000000, h1000000, h1000, h0]
set_option maxHeartbeats 4000000 in
theorem fmtN_c (v : Int) (hv0 : -9223372036854775808 ≤ v) (hv1 : v ≤ 9223372036854775807) (w : World) :
    Calls Try.prog 7 #[.int .i64 v] w fun e w' => e = .returned (.string (fgo txN v sc)) ∧ Below w.heap.size w w' := by
  have HC := fun (w' : World) (hm : imap w' .i64 w.heap.size (txm txN)) => Aside0.mk (fn_c txN txN_size v hv0 hv1 w.heap.size w' hm)
  have hmm := @run_makeMap Try.prog
  have HIM : Aside0 (imap (w.alloc (.map #[] 0)) .i64 w.heap.size (fun _ => none)) := ⟨imap_made w .i64⟩
  have HB : Aside0 (Below w.heap.size w (w.alloc (.map #[] 0))) := ⟨below_alloc (Below.refl _ w) _⟩
  clear hv0 hv1
  go_enter Try.func7, Try.ntmps7
  go_wp2_with (first | ((with_reducible refine ins_step HIM HB rfl rfl ?c1 ?c4 ?_); (case c1 => rfl); (case c4 => decide); clear HIM HB; intro w1 HIM HB) | (go_at_call 10; refine (HC _ (imap_congr HIM.out (fun k => mapN k))).out.mono ?_; rintro e w9 ⟨rfl, hb9⟩; have HB9 := Aside0.mk hb9; clear hb9))
  go_ret
  exact ⟨rfl, HB.out.trans (HB9.out.mono HB.out.size)⟩
theorem implN_c (v : Int) (hv0 : -9223372036854775808 ≤ v) (hv1 : v ≤ 9223372036854775807) (w : World) :
    Calls Try.prog 4 #[.int .i64 v] w fun e w' => e = .returned (.string (fgo txN v sc)) ∧ Below w.heap.size w w' := by
  have HC := fun w => Aside0.mk (fmtN_c v hv0 hv1 w)
  clear hv0 hv1
  go_enter Try.func4, Try.ntmps4
  go_wp2_with (go_at_call 7; refine (HC _).out.mono ?_; rintro e w9 ⟨rfl, hb9⟩)
  go_ret
  exact ⟨rfl, hb9⟩
def txB (k : Int) : ByteArray :=
  if k = 1000000000000000 then ⟨#[80, 66]⟩ else if k = 1000000000000 then ⟨#[84, 66]⟩ else if k = 1000000000 then ⟨#[71, 66]⟩ else if k = 1000000 then ⟨#[77, 66]⟩ else if k = 1000 then ⟨#[75, 66]⟩ else ⟨#[66]⟩
theorem txB_size (k : Int) : (txB k).size ≤ 10 := by
  unfold txB
  repeat' split
  all_goals decide
theorem mapB (k : Int) : (if k = 0 then some (Value.string ⟨#[66]⟩) else if k = 1000 then some (Value.string ⟨#[75, 66]⟩) else if k = 1000000 then some (Value.string ⟨#[77, 66]⟩) else if k = 1000000000 then some (Value.string ⟨#[71, 66]⟩) else if k = 1000000000000 then some (Value.string ⟨#[84, 66]⟩) else if k = 1000000000000000 then some (Value.string ⟨#[80, 66]⟩) else none) = txm txB k := by
  by_cases h0 : k = 0
  · subst h0; rfl
  by_cases h1000 : k = 1000
  · subst h1000; rfl
  by_cases h1000000 : k = 1000000
  · subst h1000000; rfl
  by_cases h1000000000 : k = 1000000000
  · subst h1000000000; rfl
  by_cases h1000000000000 : k = 1000000000000
  · subst h1000000000000; rfl
  by_cases h1000000000000000 : k = 1000000000000000
  · subst h1000000000000000; rfl
  unfold txm sc
  simp [h1000000000000000, h1000000000000, h1000000000, h1000000, h1000, h0]
set_option maxHeartbeats 4000000 in
theorem fmtB_c (v : Int) (hv0 : -9223372036854775808 ≤ v) (hv1 : v ≤ 9223372036854775807) (w : World) :
    Calls Try.prog 8 #[.int .i64 v] w fun e w' => e = .returned (.string (fgo txB v sc)) ∧ Below w.heap.size w w' := by
  have HC := fun (w' : World) (hm : imap w' .i64 w.heap.size (txm txB)) => Aside0.mk (fn_c txB txB_size v hv0 hv1 w.heap.size w' hm)
  have hmm := @run_makeMap Try.prog
  have HIM : Aside0 (imap (w.alloc (.map #[] 0)) .i64 w.heap.size (fun _ => none)) := ⟨imap_made w .i64⟩
  have HB : Aside0 (Below w.heap.size w (w.alloc (.map #[] 0))) := ⟨below_alloc (Below.refl _ w) _⟩
  clear hv0 hv1
  go_enter Try.func8, Try.ntmps8
  go_wp2_with (first | ((with_reducible refine ins_step HIM HB rfl rfl ?c1 ?c4 ?_); (case c1 => rfl); (case c4 => decide); clear HIM HB; intro w1 HIM HB) | (go_at_call 10; refine (HC _ (imap_congr HIM.out (fun k => mapB k))).out.mono ?_; rintro e w9 ⟨rfl, hb9⟩; have HB9 := Aside0.mk hb9; clear hb9))
  go_ret
  exact ⟨rfl, HB.out.trans (HB9.out.mono HB.out.size)⟩
theorem implB_c (v : Int) (hv0 : -9223372036854775808 ≤ v) (hv1 : v ≤ 9223372036854775807) (w : World) :
    Calls Try.prog 5 #[.int .i64 v] w fun e w' => e = .returned (.string (fgo txB v sc)) ∧ Below w.heap.size w w' := by
  have HC := fun w => Aside0.mk (fmtB_c v hv0 hv1 w)
  clear hv0 hv1
  go_enter Try.func5, Try.ntmps5
  go_wp2_with (go_at_call 8; refine (HC _).out.mono ?_; rintro e w9 ⟨rfl, hb9⟩)
  go_ret
  exact ⟨rfl, hb9⟩
end Go.Proofs.Ytgemoagbefdemaa.UnL
