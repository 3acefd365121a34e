/-
  Proved: what impl.Match and the law's closure answer for the operators that look for a text, on ASCII. Conditions: at most 1000 bytes each.
-/
import Derived.Test.YtjioibigijflpaaDoorMatM
namespace Go.Proofs.YtjioibigijflpaaDoor.MatZ
open Go.RowKit Go.Proofs.YtjioibigijflpaaDoorW.PrintWords Go.Proofs.YtjioibigijflpaaDoor.Common Go.Proofs.YtjioibigijflpaaDoor.MatP Go.Proofs.YtjioibigijflpaaDoor.MatW Go.Proofs.YtjioibigijflpaaDoor.MatM
set_option linter.unusedVariables false
set_option linter.unusedSimpArgs false
set_option maxRecDepth 1000000

set_option maxHeartbeats 4000000 in
theorem zz_c (op : Int) (hop : op = 6 ∨ op = 7 ∨ op = 8 ∨ op = 9) (t s : List UInt8) (fold : Bool) (ht : t.length ≤ 1000) (hs : s.length ≤ 1000) (hpt : ∀ c ∈ t, okc c) (hps : ∀ c ∈ s, okc c) (W : World) :
    Calls Tryd.prog 10 #[.string (ofL t), .agg #[.string ⟨#[]⟩, .int .i64 0, .int .i64 op, .iface 9 (.string (ofL s)), .bool fold, .nilFunc]] W fun e w' => e = .returned (.bool (askB fold t op s)) ∧ Below W.heap.size W w' := by
  have X := fun p W => Aside0.mk (op_c op hop p t s fold ht hs hpt hps W)
  clear hpt hps hop
  have hTs : (Tryd.prog.built 64 []).isSome = true := by kernel_rfl
  go_enter Tryd.func10, Tryd.ntmps10
  go_wp2_with (go_at_call 13; refine (X _ _).out.mono ?_; rintro e w1 ⟨rfl, hb⟩; have HB := Aside0.mk hb; clear hb)
  refine wp_build 64 #[] rfl (by simpa using hTs) ?_
  generalize (Tryd.prog.built 64 _).getD #[] = T
  go_wp2_with (go_at_call 13; refine (X _ _).out.mono ?_; rintro e w1 ⟨rfl, hb⟩; have HB := Aside0.mk hb; clear hb)
  go_ret
  exact ⟨rfl, (below_alloc (below_alloc (Below.refl _ _) _) _).trans (HB.out.mono (by simp; omega))⟩
theorem cell_c (s : ByteArray) (W : World) :
    Calls Tryd.prog 14 #[.agg #[.int .i64 0, .string s, .int .i64 0]] W fun e w' => e = .returned (.iface 9 (.string s)) ∧ w' = W.alloc (.cells #[.int .i64 0, .string s, .int .i64 0] 25) := by
  go_enter Tryd.func14, Tryd.ntmps14
  go_wp2
  go_ret
  exact ⟨rfl, rfl⟩
theorem store_nil (W : World) (op : Int) (s : ByteArray) (fold : Bool) : (store ⟨W.heap.size + 1, 5, none⟩ Value.nilFunc).run Tryd.prog ((((W.alloc (.cells #[.int .i64 0, .int .i64 op, .int .i64 0, .string s, .int .i64 0, .bool fold] 27)).alloc (.cells #[.string ⟨#[]⟩, .int .i64 0, .int .i64 op, .iface 9 (.string s), .bool fold, .nilFunc] 38)).alloc (.cells #[.int .i64 0, .string s, .int .i64 0] 25)).drew) = .ok () ((((W.alloc (.cells #[.int .i64 0, .int .i64 op, .int .i64 0, .string s, .int .i64 0, .bool fold] 27)).alloc (.cells #[.string ⟨#[]⟩, .int .i64 0, .int .i64 op, .iface 9 (.string s), .bool fold, .nilFunc] 38)).alloc (.cells #[.int .i64 0, .string s, .int .i64 0] 25)).drew) := by
  rw [run_store _ _ _ _ _ (by rfl)]
  go_simp
set_option maxHeartbeats 4000000 in
theorem filter_c (op : Int) (s : ByteArray) (fold : Bool) (W : World) :
    Calls Tryd.prog 11 #[.agg #[.int .i64 0, .int .i64 op, .int .i64 0, .string s, .int .i64 0, .bool fold]] W fun e w' => e = .returned (.agg #[.string ⟨#[]⟩, .int .i64 0, .int .i64 op, .iface 9 (.string s), .bool fold, .nilFunc]) ∧ Below W.heap.size W w' := by
  have X := fun W => Aside0.mk (cell_c s W)
  have hst := store_nil W op s fold
  go_enter Tryd.func11, Tryd.ntmps11
  go_wp2
  go_region_held3 (fun w' => w'.cell? ⟨W.heap.size, 0, none⟩ = some (.int .i64 0) ∧ w'.cell? ⟨W.heap.size, 1, none⟩ = some (.int .i64 op) ∧ w'.cell? ⟨W.heap.size, 2, none⟩ = some (.int .i64 0) ∧ w'.cell? ⟨W.heap.size, 3, none⟩ = some (.string s) ∧ w'.cell? ⟨W.heap.size, 4, none⟩ = some (.int .i64 0) ∧ w'.cell? ⟨W.heap.size, 5, none⟩ = some (.bool fold)) (go_keep)
    (first | (go_at_call 14; refine (X _).out.mono ?_; rintro e w1 ⟨rfl, rfl⟩))
  go_wp2
  exact bodyPost_ret (v := .agg #[.string ⟨#[]⟩, .int .i64 0, .int .i64 op, .iface 9 (.string s), .bool fold, .nilFunc]) (by simp [results, Tryd.results11, go_sem]) rfl ⟨rfl, below_drew1 (below_alloc (below_alloc (below_alloc (Below.refl _ _) _) _) _)⟩
set_option maxHeartbeats 4000000 in
theorem match_c (op : Int) (hop : op = 6 ∨ op = 7 ∨ op = 8 ∨ op = 9) (t s : List UInt8) (fold : Bool) (ht : t.length ≤ 1000) (hs : s.length ≤ 1000) (hpt : ∀ c ∈ t, okc c) (hps : ∀ c ∈ s, okc c) (W : World) :
    Calls Tryd.prog 7 #[.string (ofL t), .agg #[.int .i64 0, .int .i64 op, .int .i64 0, .string (ofL s), .int .i64 0, .bool fold]] W fun e w' => e = .returned (.bool (askB fold t op s)) ∧ Below W.heap.size W w' := by
  have X := fun W => Aside0.mk (filter_c op (ofL s) fold W)
  have Z := fun W => Aside0.mk (zz_c op hop t s fold ht hs hpt hps W)
  clear hpt hps hop
  go_enter Tryd.func7, Tryd.ntmps7
  go_wp2_with (first
    | (go_at_call 11; refine (X _).out.mono ?_; rintro e w1 ⟨rfl, hb⟩; have HB := Aside0.mk hb; clear hb)
    | (go_at_call 10; refine (Z _).out.mono ?_; rintro e w2 ⟨rfl, hb⟩; have HB2 := Aside0.mk hb; clear hb))
  go_ret
  exact ⟨rfl, (below_alloc (Below.refl _ _) _).trans ((HB.out.trans (HB2.out.mono HB.out.size)).mono (by simp))⟩
theorem app_ofL (a b : List UInt8) : ofL a ++ ofL b = ofL (a ++ b) := by
  apply ByteArray.ext
  simp [ofL]
set_option maxHeartbeats 4000000 in
theorem ask_c (op : Int) (hop : op = 6 ∨ op = 7 ∨ op = 8 ∨ op = 9) (a b c s t : List UInt8) (htt : a ++ b ++ c = t) (fold : Bool) (ha : a.length + b.length + c.length ≤ 600) (hs : s.length ≤ 1000) (hpt : ∀ x ∈ t, okc x) (hps : ∀ c ∈ s, okc c) (pa pb pc pf : Addr) (W : World) (k1 : W.cell? pa = some (.string (ofL a))) (k2 : W.cell? pb = some (.string (ofL b))) (k3 : W.cell? pc = some (.string (ofL c))) (k4 : W.cell? pf = some (.bool fold)) :
    Calls Tryd.prog 6 #[.int .i64 op, .string (ofL s), .pointer (some pa), .pointer (some pb), .pointer (some pc), .pointer (some pf)] W fun e w' => e = .returned (.bool (askB fold t op s)) ∧ Below W.heap.size W w' := by
  have Z := fun W => Aside0.mk (match_c op hop t s fold (by rw [← htt]; simp; omega) hs hpt hps W)
  have e1 : ofL a ++ ofL b = ofL (a ++ b) := app_ofL a b
  have e2 : ofL (a ++ b) ++ ofL c = ofL t := by rw [app_ofL, htt]
  have q1 : (ofL a).size = a.length := ofL_size a
  have q2 : (ofL b).size = b.length := ofL_size b
  have q3 : (ofL c).size = c.length := ofL_size c
  have q4 : (ofL (a ++ b)).size = a.length + b.length := by rw [ofL_size, List.length_append]
  clear hpt hps hop htt
  go_enter Tryd.func6, Tryd.ntmps6
  go_wp2_with (go_at_call 7; refine (Z _).out.mono ?_; rintro e w2 ⟨rfl, hb⟩; have HB2 := Aside0.mk hb; clear hb)
  go_ret
  exact ⟨rfl, HB2.out⟩
end Go.Proofs.YtjioibigijflpaaDoor.MatZ
