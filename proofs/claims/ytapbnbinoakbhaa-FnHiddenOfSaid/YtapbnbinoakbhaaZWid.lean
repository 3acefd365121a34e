/-
  Proved: getColumnWidthMax answers 0 where no column has a most. Conditions: the map as zzColumns lays it.
-/
import Derived.Test.YtapbnbinoakbhaaZReg
namespace Go.Proofs.Ytapbnbinoakbhaa.ZWid
open Go.RowKit Go.Proofs.YtapbnbinoakbhaaW.PrintWords Go.Proofs.Ytapbnbinoakbhaa.Common Go.Proofs.Ytapbnbinoakbhaa.SlcQ Go.Proofs.Ytapbnbinoakbhaa.SlcA Go.Proofs.Ytapbnbinoakbhaa.ZCol Go.Proofs.Ytapbnbinoakbhaa.ZReg Go.Proofs.Ytapbnbinoakbhaa.IMap
set_option linter.unusedVariables false
set_option linter.unusedSimpArgs false
set_option maxRecDepth 1000000

theorem zero84 (w : World) : (zeroValue 84).run Try.prog w = .ok (.agg (cfgV false)) w := by
  have h : (Try.prog.info? 84).bind (·.zero) = some (.agg (cfgV false)) := by kernel_rfl
  obtain ⟨i, hi, hz⟩ := Option.bind_eq_some_iff.1 h
  simp [zeroValue, typeInfo, hi, hz]
theorem mapF_zero (n : Nat) (i : Int) : (mapF (fun _ => false) n i).getD (.agg (cfgV false)) = .agg (cfgV false) := by
  unfold mapF
  split <;> rfl
set_option maxHeartbeats 2000000 in
theorem wmax_c (n : Nat) (i : Int) (bt mr : Nat) (w : World) (hi : (Lit.int .i64 i).wf = true) (c6 : w.cell? ⟨bt, 6, none⟩ = some (.map (some mr))) (hm : imap w .i64 mr (mapF (fun _ => false) n)) :
    Calls Try.prog 75 #[.pointer (some ⟨bt, 0, none⟩), .int .i64 i] w fun e w' => e = .returned (.int .i64 0) ∧ Below w.heap.size w w' := by
  obtain ⟨b, hb⟩ : ∃ b, b = (mapF (fun _ => false) n i).isSome := ⟨_, rfl⟩
  have hlk := imap_lookup hm Try.underlying133 Try.underlying3 (zero84 w) i hi true
  simp only [mapF_zero, ← hb, if_true] at hlk
  unfold cfgV at hlk
  have hst : (store ⟨w.heap.size, 14, none⟩ Value.nilFunc).run Try.prog (w.alloc (Obj.cells #[.string ⟨#[]⟩, .int .i64 0, .int .i64 0, .int .i64 0, .int .i64 0, .bool false, .slice none 0 0, .slice none 0 0, .slice none 0 0, .bool false, .int .i64 0, .int .i64 0, .int .i64 0, .int .i64 0, .nilFunc, .int .i64 0] 84)) = .ok () (w.alloc (Obj.cells #[.string ⟨#[]⟩, .int .i64 0, .int .i64 0, .int .i64 0, .int .i64 0, .bool false, .slice none 0 0, .slice none 0 0, .slice none 0 0, .bool false, .int .i64 0, .int .i64 0, .int .i64 0, .int .i64 0, .nilFunc, .int .i64 0] 84)) := by
    rw [run_store _ _ _ _ _ (by rfl)]
    simp [World.cell?_alloc_at, World.frozen?_alloc_at, World.setCell_alloc_at]
  clear hm hb
  cases b with
  | false =>
    go_enter Try.func75, Try.ntmps75
    go_wp2
    go_ret
    exact ⟨rfl, below_alloc (Below.refl _ _) _⟩
  | true =>
    go_enter Try.func75, Try.ntmps75
    go_wp2
    go_ret
    exact ⟨rfl, below_alloc (Below.refl _ _) _⟩
end Go.Proofs.Ytapbnbinoakbhaa.ZWid
