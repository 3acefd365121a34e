/-
  Proved: what impl.Match answers for the operators that look for a text, on ASCII. Conditions: at most 1000 bytes each.
-/
import Derived.Test.YtjioibigijflpaaDoorMatW
namespace Go.Proofs.YtjioibigijflpaaDoor.MatM
open Go.RowKit Go.Proofs.YtjioibigijflpaaDoorW.PrintWords Go.Proofs.YtjioibigijflpaaDoor.Common Go.Proofs.YtjioibigijflpaaDoor.MatP Go.Proofs.YtjioibigijflpaaDoor.MatW
set_option linter.unusedVariables false
set_option linter.unusedSimpArgs false
set_option maxRecDepth 1000000

theorem starts_c (p : Option Addr) (t s : List UInt8) (fold : Bool) (ht : t.length ≤ 1000) (hs : s.length ≤ 1000) (hpt : ∀ c ∈ t, okc c) (hps : ∀ c ∈ s, okc c) (W : World) :
    Calls Tryd.prog 27 #[.pointer p, .string (ofL t), .iface 9 (.string (ofL s)), .bool fold] W fun e w' => e = .returned (.bool (Lib.hasPrefix (lw fold t) (lw fold s))) ∧ Below W.heap.size W w' := by
  have X := fun W => Aside0.mk (text_c (ofL s) W)
  cases fold with
  | false =>
    have H := fun W => Aside0.mk (Tryd.strings_HasPrefix (ofL t) (ofL s) W)
    simp only [ofL_data] at H
    unfold lw
    simp only [Bool.false_eq_true, if_false]
    clear hpt hps
    go_enter Tryd.func27, Tryd.ntmps27
    go_wp2_with (first
      | (go_at_call 34; refine (X _).out.mono ?_; rintro e w1 ⟨rfl, rfl⟩)
      | (go_at_call 39; refine (H _).out.mono ?_; rintro e w2 ⟨rfl, rfl⟩))
    go_ret
    exact ⟨rfl, Below.refl _ _⟩
  | true =>
    have L1 := fun W => Aside0.mk (low_c t ht hpt W)
    have L2 := fun W => Aside0.mk (low_c s hs hps W)
    have H := fun W => Aside0.mk (Tryd.strings_HasPrefix (ofL (Lib.toLowerA t)) (ofL (Lib.toLowerA s)) W)
    simp only [ofL_data] at H
    unfold lw
    simp only [if_true]
    clear hpt hps
    go_enter Tryd.func27, Tryd.ntmps27
    go_wp2_with (first
      | (go_at_call 34; refine (X _).out.mono ?_; rintro e w1 ⟨rfl, rfl⟩)
      | (go_at_call_of 38 (Value.string (ofL t)); refine (L1 _).out.mono ?_; rintro e w2 ⟨rfl, hb⟩; have HB2 := Aside0.mk hb; clear hb)
      | (go_at_call_of 38 (Value.string (ofL s)); refine (L2 _).out.mono ?_; rintro e w3 ⟨rfl, hb⟩; have HB3 := Aside0.mk hb; clear hb)
      | (go_at_call 39; refine (H _).out.mono ?_; rintro e w4 ⟨rfl, rfl⟩))
    go_ret
    exact ⟨rfl, HB2.out.trans (HB3.out.mono HB2.out.size)⟩
theorem ends_c (p : Option Addr) (t s : List UInt8) (fold : Bool) (ht : t.length ≤ 1000) (hs : s.length ≤ 1000) (hpt : ∀ c ∈ t, okc c) (hps : ∀ c ∈ s, okc c) (W : World) :
    Calls Tryd.prog 28 #[.pointer p, .string (ofL t), .iface 9 (.string (ofL s)), .bool fold] W fun e w' => e = .returned (.bool (Lib.hasSuffix (lw fold t) (lw fold s))) ∧ Below W.heap.size W w' := by
  have X := fun W => Aside0.mk (text_c (ofL s) W)
  cases fold with
  | false =>
    have H := fun W => Aside0.mk (Tryd.strings_HasSuffix (ofL t) (ofL s) W (by rw [ofL_size]; first | omega | (simp only [Lib.toLowerA, List.length_map]; omega)))
    simp only [ofL_data] at H
    unfold lw
    simp only [Bool.false_eq_true, if_false]
    clear hpt hps
    go_enter Tryd.func28, Tryd.ntmps28
    go_wp2_with (first
      | (go_at_call 34; refine (X _).out.mono ?_; rintro e w1 ⟨rfl, rfl⟩)
      | (go_at_call 40; refine (H _).out.mono ?_; rintro e w2 ⟨rfl, rfl⟩))
    go_ret
    exact ⟨rfl, Below.refl _ _⟩
  | true =>
    have L1 := fun W => Aside0.mk (low_c t ht hpt W)
    have L2 := fun W => Aside0.mk (low_c s hs hps W)
    have H := fun W => Aside0.mk (Tryd.strings_HasSuffix (ofL (Lib.toLowerA t)) (ofL (Lib.toLowerA s)) W (by rw [ofL_size]; first | omega | (simp only [Lib.toLowerA, List.length_map]; omega)))
    simp only [ofL_data] at H
    unfold lw
    simp only [if_true]
    clear hpt hps
    go_enter Tryd.func28, Tryd.ntmps28
    go_wp2_with (first
      | (go_at_call 34; refine (X _).out.mono ?_; rintro e w1 ⟨rfl, rfl⟩)
      | (go_at_call_of 38 (Value.string (ofL t)); refine (L1 _).out.mono ?_; rintro e w2 ⟨rfl, hb⟩; have HB2 := Aside0.mk hb; clear hb)
      | (go_at_call_of 38 (Value.string (ofL s)); refine (L2 _).out.mono ?_; rintro e w3 ⟨rfl, hb⟩; have HB3 := Aside0.mk hb; clear hb)
      | (go_at_call 40; refine (H _).out.mono ?_; rintro e w4 ⟨rfl, rfl⟩))
    go_ret
    exact ⟨rfl, HB2.out.trans (HB3.out.mono HB2.out.size)⟩
theorem op6_c (p : Option Addr) (t s : List UInt8) (fold : Bool) (ht : t.length ≤ 1000) (hs : s.length ≤ 1000) (hpt : ∀ c ∈ t, okc c) (hps : ∀ c ∈ s, okc c) (W : World) :
    Calls Tryd.prog 13 #[.pointer p, .string (ofL t), .agg #[.string ⟨#[]⟩, .int .i64 0, .int .i64 6, .iface 9 (.string (ofL s)), .bool fold, .nilFunc]] W fun e w' => e = .returned (.bool (hasL (lw fold s) (lw fold t))) ∧ Below W.heap.size W w' := by
  have X := fun W => Aside0.mk (contains_c p t s fold ht hs hpt hps W)
  clear hpt hps
  obtain ⟨b, hb⟩ : ∃ b, b = hasL (lw fold s) (lw fold t) := ⟨_, rfl⟩
  rw [← hb] at X ⊢
  clear hb
  go_enter Tryd.func13, Tryd.ntmps13
  go_wp2_with (go_at_call 26; refine (X _).out.mono ?_; rintro e w1 ⟨rfl, hb⟩; have HB := Aside0.mk hb; clear hb)
  go_ret
  exact ⟨rfl, (below_alloc (Below.refl _ _) _).trans (HB.out.mono (by simp))⟩
theorem op7_c (p : Option Addr) (t s : List UInt8) (fold : Bool) (ht : t.length ≤ 1000) (hs : s.length ≤ 1000) (hpt : ∀ c ∈ t, okc c) (hps : ∀ c ∈ s, okc c) (W : World) :
    Calls Tryd.prog 13 #[.pointer p, .string (ofL t), .agg #[.string ⟨#[]⟩, .int .i64 0, .int .i64 7, .iface 9 (.string (ofL s)), .bool fold, .nilFunc]] W fun e w' => e = .returned (.bool (!(hasL (lw fold s) (lw fold t)))) ∧ Below W.heap.size W w' := by
  have X := fun W => Aside0.mk (contains_c p t s fold ht hs hpt hps W)
  clear hpt hps
  obtain ⟨b, hb⟩ : ∃ b, b = (hasL (lw fold s) (lw fold t)) := ⟨_, rfl⟩
  rw [← hb] at X ⊢
  clear hb
  go_enter Tryd.func13, Tryd.ntmps13
  go_wp2_with (go_at_call 26; refine (X _).out.mono ?_; rintro e w1 ⟨rfl, hb⟩; have HB := Aside0.mk hb; clear hb)
  go_ret
  exact ⟨rfl, (below_alloc (Below.refl _ _) _).trans (HB.out.mono (by simp))⟩
theorem op8_c (p : Option Addr) (t s : List UInt8) (fold : Bool) (ht : t.length ≤ 1000) (hs : s.length ≤ 1000) (hpt : ∀ c ∈ t, okc c) (hps : ∀ c ∈ s, okc c) (W : World) :
    Calls Tryd.prog 13 #[.pointer p, .string (ofL t), .agg #[.string ⟨#[]⟩, .int .i64 0, .int .i64 8, .iface 9 (.string (ofL s)), .bool fold, .nilFunc]] W fun e w' => e = .returned (.bool (Lib.hasPrefix (lw fold t) (lw fold s))) ∧ Below W.heap.size W w' := by
  have X := fun W => Aside0.mk (starts_c p t s fold ht hs hpt hps W)
  clear hpt hps
  obtain ⟨b, hb⟩ : ∃ b, b = Lib.hasPrefix (lw fold t) (lw fold s) := ⟨_, rfl⟩
  rw [← hb] at X ⊢
  clear hb
  go_enter Tryd.func13, Tryd.ntmps13
  go_wp2_with (go_at_call 27; refine (X _).out.mono ?_; rintro e w1 ⟨rfl, hb⟩; have HB := Aside0.mk hb; clear hb)
  go_ret
  exact ⟨rfl, (below_alloc (Below.refl _ _) _).trans (HB.out.mono (by simp))⟩
theorem op9_c (p : Option Addr) (t s : List UInt8) (fold : Bool) (ht : t.length ≤ 1000) (hs : s.length ≤ 1000) (hpt : ∀ c ∈ t, okc c) (hps : ∀ c ∈ s, okc c) (W : World) :
    Calls Tryd.prog 13 #[.pointer p, .string (ofL t), .agg #[.string ⟨#[]⟩, .int .i64 0, .int .i64 9, .iface 9 (.string (ofL s)), .bool fold, .nilFunc]] W fun e w' => e = .returned (.bool (Lib.hasSuffix (lw fold t) (lw fold s))) ∧ Below W.heap.size W w' := by
  have X := fun W => Aside0.mk (ends_c p t s fold ht hs hpt hps W)
  clear hpt hps
  obtain ⟨b, hb⟩ : ∃ b, b = Lib.hasSuffix (lw fold t) (lw fold s) := ⟨_, rfl⟩
  rw [← hb] at X ⊢
  clear hb
  go_enter Tryd.func13, Tryd.ntmps13
  go_wp2_with (go_at_call 28; refine (X _).out.mono ?_; rintro e w1 ⟨rfl, hb⟩; have HB := Aside0.mk hb; clear hb)
  go_ret
  exact ⟨rfl, (below_alloc (Below.refl _ _) _).trans (HB.out.mono (by simp))⟩
theorem op_c (op : Int) (hop : op = 6 ∨ op = 7 ∨ op = 8 ∨ op = 9) (p : Option Addr) (t s : List UInt8) (fold : Bool) (ht : t.length ≤ 1000) (hs : s.length ≤ 1000) (hpt : ∀ c ∈ t, okc c) (hps : ∀ c ∈ s, okc c) (W : World) :
    Calls Tryd.prog 13 #[.pointer p, .string (ofL t), .agg #[.string ⟨#[]⟩, .int .i64 0, .int .i64 op, .iface 9 (.string (ofL s)), .bool fold, .nilFunc]] W fun e w' => e = .returned (.bool (askB fold t op s)) ∧ Below W.heap.size W w' := by
  rcases hop with rfl | rfl | rfl | rfl
  · exact op6_c p t s fold ht hs hpt hps W
  · exact op7_c p t s fold ht hs hpt hps W
  · exact op8_c p t s fold ht hs hpt hps W
  · exact op9_c p t s fold ht hs hpt hps W
end Go.Proofs.YtjioibigijflpaaDoor.MatM
