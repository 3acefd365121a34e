/-
  Proved: what impl.CsvRow returns. Conditions: cells of at most 2000 bytes, at most 2001 of them, at most 300 columns.
-/
import Derived.Test.YtjoagjkmghmnnaaCsvW
import Derived.Laws.Tables
namespace Go.Proofs.Ytjoagjkmghmnnaa.CsvZ
open Go.RowKit Go.Proofs.YtjoagjkmghmnnaaW.PrintWords Go.Proofs.YtjoagjkmghmnnaaW.PrintLast Go.Proofs.Ytjoagjkmghmnnaa.Common Go.Proofs.Ytjoagjkmghmnnaa.CsvP Go.Proofs.Ytjoagjkmghmnnaa.Bld Go.Proofs.Ytjoagjkmghmnnaa.CsvW
set_option linter.unusedVariables false
set_option linter.unusedSimpArgs false

theorem setup (w : World) (S T : Array Value) : BS (w.heap.size + 1 + 1) (((w.alloc (.cells S 113)).alloc (.cells T 159)).alloc (.cells #[.pointer none, .slice none 0 0] 182)) [] 0 (((w.alloc (.cells S 113)).alloc (.cells T 159)).alloc (.cells #[.pointer none, .slice none 0 0] 182))
    ∧ (((w.alloc (.cells S 113)).alloc (.cells T 159)).alloc (.cells #[.pointer none, .slice none 0 0] 182)).heap[w.heap.size]? = some (.cells S 113 (0, 0))
    ∧ (((w.alloc (.cells S 113)).alloc (.cells T 159)).alloc (.cells #[.pointer none, .slice none 0 0] 182)).heap[w.heap.size + 1]? = some (.cells T 159 (0, 0))
    ∧ Below w.heap.size w (((w.alloc (.cells S 113)).alloc (.cells T 159)).alloc (.cells #[.pointer none, .slice none 0 0] 182)) := by
  obtain ⟨W1, hW1⟩ : ∃ W1, W1 = w.alloc (.cells S 113) := ⟨_, rfl⟩
  obtain ⟨W2, hW2⟩ : ∃ W2, W2 = W1.alloc (.cells T 159) := ⟨_, rfl⟩
  have s1 : W1.heap.size = w.heap.size + 1 := by rw [hW1, World.size_alloc]
  have s2 : W2.heap.size = w.heap.size + 1 + 1 := by rw [hW2, World.size_alloc, s1]
  have h1 : W1.heap[w.heap.size]? = some (.cells S 113 (0, 0)) := by rw [hW1]; exact heap_alloc_new w _
  have h2 : W2.heap[w.heap.size + 1]? = some (.cells T 159 (0, 0)) := by rw [hW2, ← s1]; exact heap_alloc_new W1 _
  have b2 : Below W1.heap.size W1 W2 := by rw [hW2]; exact (Below.refl _ _).alloc (Nat.le_refl _) _
  have b3 := (Below.refl W2.heap.size W2).alloc (Nat.le_refl _) (.cells #[.pointer none, .slice none 0 0] 182)
  have f := fresh W2
  rw [s2] at f
  rw [← hW1, ← hW2]
  refine ⟨f, ?_, ?_, ?_⟩
  · rw [b3.block _ (by omega), b2.block _ (by omega)]; exact h1
  · rw [b3.block _ (by omega)]; exact h2
  · have b1 : Below w.heap.size w W1 := by rw [hW1]; exact (Below.refl _ _).alloc (Nat.le_refl _) _
    exact (b1.trans (b2.mono (by omega))).trans (b3.mono (by omega))
theorem arg_below {w : World} {A : Option Addr} {cells : List ByteArray} (hr : Kd.C Kd.string w A cells.length cells) : ∀ a, A = some a → 0 < cells.length → a.block < w.heap.size := by
  intro a ha h0
  have h := Kd.reads_of_C (enc := Value.string) (d := ByteArray.empty) (h1 := fun _ => rfl) hr
  obtain ⟨ad, he, hc⟩ := h.2.2 h0
  rw [ha] at he
  cases he
  have h1 := World.block_lt_of_cell? w _ (hc 0 h0)
  rw [add_zero_] at h1
  exact h1
theorem wp_built {P : Program} {o : Oper} {a : Act} {w : World} {K : Act → World → Prop} {Q : Exit → Act → World → Prop} (t : TypeId) (parts : Array (Nat × Operand)) (ho : o.op = .build t parts) (T : Array Value)
    (hT : P.built t (parts.map fun (i, x) => (i, a.eval x)).toList = some T) (h : K (a.put o.dst (.agg T)) w) : o.wp P a w K Q :=
  wp_build t parts ho (by rw [hT]; rfl) (by rw [hT]; exact h)
theorem tbl_ex (columns : Int) (index : Bool) (st : Nat) : ∃ T : Array Value, Try.prog.built 159 [(14, .int .i64 columns), (1, .bool index), (37, .pointer (some ⟨st, 0, none⟩))] = some T ∧ T[1]? = some (.bool index) ∧ T[14]? = some (.int .i64 columns) ∧ T[39]? = some (.pointer (some ⟨st, 0, none⟩)) := by
  have h : (Try.prog.built 159 [(14, .int .i64 columns), (1, .bool index), (37, .pointer (some ⟨st, 0, none⟩))]).isSome = true := by kernel_rfl
  have h1 : ((Try.prog.built 159 [(14, .int .i64 columns), (1, .bool index), (37, .pointer (some ⟨st, 0, none⟩))]).getD #[])[1]? = some (.bool index) := by kernel_rfl
  have h2 : ((Try.prog.built 159 [(14, .int .i64 columns), (1, .bool index), (37, .pointer (some ⟨st, 0, none⟩))]).getD #[])[14]? = some (.int .i64 columns) := by kernel_rfl
  have h3 : ((Try.prog.built 159 [(14, .int .i64 columns), (1, .bool index), (37, .pointer (some ⟨st, 0, none⟩))]).getD #[])[39]? = some (.pointer (some ⟨st, 0, none⟩)) := by kernel_rfl
  obtain ⟨T, hT⟩ := Option.isSome_iff_exists.1 h
  rw [hT] at h1 h2 h3
  exact ⟨T, hT, h1, h2, h3⟩
set_option maxHeartbeats 40000000 in
set_option maxRecDepth 1000000 in
theorem zz_c (p index : Bool) (number columns : Int) (A : Option Addr) (cp : Nat) (cells : List ByteArray) (w : World) (hr : Kd.C Kd.string w A cells.length cells) (hcp : cells.length ≤ cp)
    (hn0 : -9223372036854775808 ≤ number) (hn1 : number ≤ 9223372036854775807) (hc0 : 0 ≤ columns) (hc1 : columns ≤ 300) (hl : cells.length ≤ 2001) (hx : ∀ x ∈ cells, x.size ≤ 2000) :
    Calls Try.prog 78 #[.slice A cells.length cp, .int .i64 columns, .bool p, .bool index, .int .i64 number] w fun e w' => e = .returned (.string (ofL (row p index number cells columns))) ∧ Below w.heap.size w w' := by
  have HX := Aside0.mk hx
  have HR := Aside0.mk hr
  clear hr hx
  obtain ⟨T, hT, h1, h14, h39⟩ := tbl_ex columns index w.heap.size
  have HT1 := Aside0.mk h1
  have HT14 := Aside0.mk h14
  have HT39 := Aside0.mk h39
  have HTB := Aside0.mk hT
  clear hT h1 h14 h39
  go_enter Try.func78, Try.ntmps78
  go_wp2_with fail
  refine wp_built 159 _ rfl T (by simp only [List.map_toArray, List.map_cons, List.map_nil]; exact HTB.out) ?_
  go_wp2_with fail
  refine (row_c (w.heap.size + 1) w.heap.size (w.heap.size + 1 + 1) p index number columns A cp cells _ ?hT ?hB ?hr hcp ?hbl hn0 hn1 hc0 hc1 hl HX.out).mono ?_
  case hB => exact (setup w _ T).1
  case hr => exact Kd.C_below HR.out (setup w _ T).2.2.2
  case hbl => exact fun a ha h0 => Nat.lt_of_lt_of_le (arg_below HR.out a ha h0) (by omega)
  case hT =>
    refine ⟨?_, ?_, ?_, ?_, by omega, by omega⟩
    · exact (cell_of_row _ _ _ _ _ _ (setup w _ T).2.2.1).trans HT1.out
    · exact (cell_of_row _ _ _ _ _ _ (setup w _ T).2.2.1).trans HT14.out
    · exact (cell_of_row _ _ _ _ _ _ (setup w _ T).2.2.1).trans HT39.out
    · exact (cell_of_row _ _ _ _ _ _ (setup w _ T).2.1).trans rfl
  rintro e w1 ⟨rfl, m, hb⟩
  have HI := Aside0.mk hb
  have HBL := Aside0.mk ((setup w _ T).2.2.2.trans (hb.bel.mono (by omega)))
  clear hb
  go_wp2_with (go_at_call 118; refine (bstring HI.out).mono ?_; rintro e w2 ⟨rfl, hb2⟩; have HB2 := Aside0.mk ((setup w _ T).2.2.2.trans (hb2.mono (by omega))); clear hb2)
  go_ret
  exact ⟨rfl, HB2.out⟩
set_option maxRecDepth 100000 in
theorem impl_c (p index : Bool) (number columns : Int) (A : Option Addr) (cp : Nat) (cells : List ByteArray) (w : World) (hr : Kd.C Kd.string w A cells.length cells) (hcp : cells.length ≤ cp)
    (hn0 : -9223372036854775808 ≤ number) (hn1 : number ≤ 9223372036854775807) (hc0 : 0 ≤ columns) (hc1 : columns ≤ 300) (hl : cells.length ≤ 2001) (hx : ∀ x ∈ cells, x.size ≤ 2000) :
    Calls Try.prog 39 #[.slice A cells.length cp, .int .i64 columns, .bool p, .bool index, .int .i64 number] w fun e w' => e = .returned (.string (ofL (row p index number cells columns))) ∧ Below w.heap.size w w' := by
  have C := Aside0.mk (zz_c p index number columns A cp cells w hr hcp hn0 hn1 hc0 hc1 hl hx)
  clear hr hx
  go_enter Try.func39, Try.ntmps39
  go_wp2_with (go_at_call 78; refine C.out.mono ?_; rintro e w1 ⟨rfl, hb⟩; have HB1 := Aside0.mk hb; clear hb)
  go_ret
  exact ⟨rfl, HB1.out⟩
end Go.Proofs.Ytjoagjkmghmnnaa.CsvZ
