/-
  Proved: the contract of impl.HtmlCell without spans in the print's own form. Conditions: where its plain function gives an answer (no spans, a text of at most 1000 bytes, a newline's text of at most 100).
-/
import Derived.Test.YtehlfbhlaoiioaaGreatDoorRHtmW
import Derived.Laws.Tables
namespace Go.Proofs.YtehlfbhlaoiioaaGreatDoorR.GivenHtm
open Go.RowKit Go.Proofs.YtehlfbhlaoiioaaGreatDoorRW.PrintWords Go.Proofs.YtehlfbhlaoiioaaGreatDoorRW.PrintLast Go.Proofs.YtehlfbhlaoiioaaGreatDoorR.Common Go.Proofs.YtehlfbhlaoiioaaGreatDoorR.HtmP Go.Proofs.YtehlfbhlaoiioaaGreatDoorR.BldS Go.Proofs.YtehlfbhlaoiioaaGreatDoorR.HtmW
set_option linter.unusedVariables false
set_option linter.unusedSimpArgs false

theorem setup (w : World) (O S T : Array Value) : BS (w.heap.size + 1) ((w.alloc (.cells O 27)).alloc (.cells #[.pointer none, .slice none 0 0] 34)) [] 0 ((((w.alloc (.cells O 27)).alloc (.cells #[.pointer none, .slice none 0 0] 34)).alloc (.cells S 61)).alloc (.cells T 84))
    ∧ ((((w.alloc (.cells O 27)).alloc (.cells #[.pointer none, .slice none 0 0] 34)).alloc (.cells S 61)).alloc (.cells T 84)).heap[w.heap.size + 1 + 1]? = some (.cells S 61 (0, 0))
    ∧ ((((w.alloc (.cells O 27)).alloc (.cells #[.pointer none, .slice none 0 0] 34)).alloc (.cells S 61)).alloc (.cells T 84)).heap[w.heap.size + 1 + 1 + 1]? = some (.cells T 84 (0, 0))
    ∧ Below w.heap.size w ((w.alloc (.cells O 27)).alloc (.cells #[.pointer none, .slice none 0 0] 34)) ∧ w.heap.size + 1 + 1 + 1 < ((((w.alloc (.cells O 27)).alloc (.cells #[.pointer none, .slice none 0 0] 34)).alloc (.cells S 61)).alloc (.cells T 84)).heap.size := by
  obtain ⟨W1, hW1⟩ : ∃ W1, W1 = w.alloc (.cells O 27) := ⟨_, rfl⟩
  rw [← hW1]
  obtain ⟨W2, hW2⟩ : ∃ W2, W2 = W1.alloc (.cells #[.pointer none, .slice none 0 0] 34) := ⟨_, rfl⟩
  rw [← hW2]
  obtain ⟨W3, hW3⟩ : ∃ W3, W3 = W2.alloc (.cells S 61) := ⟨_, rfl⟩
  rw [← hW3]
  obtain ⟨W4, hW4⟩ : ∃ W4, W4 = W3.alloc (.cells T 84) := ⟨_, rfl⟩
  rw [← hW4]
  have s1 : W1.heap.size = w.heap.size + 1 := by rw [hW1, World.size_alloc]
  have s2 : W2.heap.size = w.heap.size + 1 + 1 := by rw [hW2, World.size_alloc, s1]
  have s3 : W3.heap.size = w.heap.size + 1 + 1 + 1 := by rw [hW3, World.size_alloc, s2]
  have s4 : W4.heap.size = w.heap.size + 1 + 1 + 1 + 1 := by rw [hW4, World.size_alloc, s3]
  have b1 : Below w.heap.size w W1 := by rw [hW1]; exact (Below.refl _ _).alloc (Nat.le_refl _) _
  have b2 : Below W1.heap.size W1 W2 := by rw [hW2]; exact (Below.refl _ _).alloc (Nat.le_refl _) _
  have b3 : Below W2.heap.size W2 W3 := by rw [hW3]; exact (Below.refl _ _).alloc (Nat.le_refl _) _
  have b4 : Below W3.heap.size W3 W4 := by rw [hW4]; exact (Below.refl _ _).alloc (Nat.le_refl _) _
  have f := fresh W1
  rw [s1, ← hW2] at f
  refine ⟨(f.below b3).below b4, ?_, ?_, b1.trans (b2.mono (by omega)), by omega⟩
  · rw [b4.block _ (by omega), ← s2, hW3]; exact heap_alloc_new W2 _
  · rw [← s3, hW4]; exact heap_alloc_new W3 _
theorem wp_built {P : Program} {o : Oper} {a : Act} {w : World} {K : Act → World → Prop} {Q : Exit → Act → World → Prop} (t : TypeId) (parts : Array (Nat × Operand)) (ho : o.op = .build t parts) (T : Array Value)
    (hT : P.built t (parts.map fun (i, x) => (i, a.eval x)).toList = some T) (h : K (a.put o.dst (.agg T)) w) : o.wp P a w K Q :=
  wp_build t parts ho (by rw [hT]; rfl) (by rw [hT]; exact h)
theorem tbl_ex (st : Nat) : ∃ T : Array Value, Tryz.prog.built 84 [(37, .pointer (some ⟨st, 0, none⟩))] = some T ∧ T[39]? = some (.pointer (some ⟨st, 0, none⟩)) := by
  have h : (Tryz.prog.built 84 [(37, .pointer (some ⟨st, 0, none⟩))]).isSome = true := by kernel_rfl
  have h3 : ((Tryz.prog.built 84 [(37, .pointer (some ⟨st, 0, none⟩))]).getD #[])[39]? = some (.pointer (some ⟨st, 0, none⟩)) := by kernel_rfl
  obtain ⟨T, hT⟩ := Option.isSome_iff_exists.1 h
  rw [hT] at h3
  exact ⟨T, hT, h3⟩
def optV (esc : Bool) (nl : ByteArray) : Array Value := #[.bool false, .string ⟨#[]⟩, .string ⟨#[]⟩, .bool esc, .string nl]
set_option maxHeartbeats 8000000 in
set_option maxRecDepth 1000000 in
theorem zz_c (esc : Bool) (nl s : ByteArray) (w : World) (hs : s.size ≤ 1000) (hn : nl.size ≤ 100) :
    Calls Tryz.prog 6 #[.string s, .agg (optV esc nl)] w fun e w' => e = .returned (.string (ofL (htm esc nl.data.toList s.data.toList))) ∧ Below w.heap.size w w' := by
  obtain ⟨T, hT, h39⟩ := tbl_ex (w.heap.size + 1 + 1)
  have HT := Aside0.mk hT
  have H39 := Aside0.mk h39
  clear hT h39
  unfold optV
  go_enter Tryz.func6, Tryz.ntmps6
  go_wp2_with fail
  refine wp_built 84 _ rfl T (by simp only [List.map_toArray, List.map_cons, List.map_nil]; exact HT.out) ?_
  go_wp2_with fail
  refine (render_c (w.heap.size + 1 + 1 + 1) (w.heap.size + 1 + 1) (w.heap.size + 1) esc nl s _ _ ?hT (setup w _ _ T).2.2.2.2 (Nat.lt_of_succ_lt (setup w _ _ T).2.2.2.2) (setup w _ _ T).1 hs hn).mono ?_
  case hT =>
    refine ⟨?_, ?_, ?_, ?_⟩
    · exact (cell_of_row _ _ _ _ _ _ (setup w _ _ T).2.2.1).trans H39.out
    · exact (cell_of_row _ _ _ _ _ _ (setup w _ _ T).2.1).trans rfl
    · exact (cell_of_row _ _ _ _ _ _ (setup w _ _ T).2.1).trans rfl
    · exact (cell_of_row _ _ _ _ _ _ (setup w _ _ T).2.1).trans rfl
  rintro e w1 ⟨rfl, m, hb⟩
  have HI := Aside0.mk hb
  clear hb
  go_wp2_with (go_at_call 10; refine (bstring HI.out).mono ?_; rintro e w2 ⟨rfl, hb2⟩; have HB2 := Aside0.mk ((setup w _ #[] #[]).2.2.2.1.trans (hb2.mono (Nat.le_succ _))); clear hb2)
  go_ret
  exact ⟨rfl, HB2.out⟩
set_option maxRecDepth 100000 in
theorem impl_c (esc : Bool) (nl s : ByteArray) (w : World) (hs : s.size ≤ 1000) (hn : nl.size ≤ 100) :
    Calls Tryz.prog 4 #[.string s, .bool false, .bool esc, .string nl] w fun e w' => e = .returned (.string (ofL (htm esc nl.data.toList s.data.toList))) ∧ Below w.heap.size w w' := by
  have C := Aside0.mk (zz_c esc nl s w hs hn)
  unfold optV at C
  go_enter Tryz.func4, Tryz.ntmps4
  go_wp2_with (go_at_call 6; refine C.out.mono ?_; rintro e w1 ⟨rfl, hb⟩; have HB1 := Aside0.mk hb; clear hb)
  go_ret
  exact ⟨rfl, HB1.out⟩
def impl_HtmlCell.f (s : ByteArray) (spans esc : Bool) (nl : ByteArray) : Option ByteArray := if spans = false ∧ s.size ≤ 1000 ∧ nl.size ≤ 100 then some (ofL (htm esc nl.data.toList s.data.toList)) else none
theorem impl_HtmlCell.calls (s : ByteArray) (spans esc : Bool) (nl : ByteArray) (r : ByteArray) (w : World) (h : impl_HtmlCell.f s spans esc nl = some r) :
    Calls Tryz.prog 4 #[.string s, .bool spans, .bool esc, .string nl] w fun e w' => e = .returned (.string r) ∧ Below w.heap.size w w' := by
  unfold impl_HtmlCell.f at h
  split at h
  · rename_i hc
    obtain ⟨rfl, hs, hn⟩ := hc
    obtain rfl := Option.some.inj h
    exact impl_c esc nl s w hs hn
  · cases h
end Go.Proofs.YtehlfbhlaoiioaaGreatDoorR.GivenHtm
