/-
  Proved: what impl.Match answers for the operators that look for a text, on ASCII. Conditions: at most 600 bytes each.
-/
import Derived.Test.YtjioibigijflpaaDoorMatP
import Derived.Test.YtjioibigijflpaaDoorShelf
import Derived.WalkKit
import Derived.Deep.RegionWith
import Derived.Deep.RegionHeld3
namespace Go.Proofs.YtjioibigijflpaaDoor.MatW
open Go.RowKit Go.Proofs.YtjioibigijflpaaDoorW.PrintWords Go.Proofs.YtjioibigijflpaaDoor.Common Go.Proofs.YtjioibigijflpaaDoor.MatP
set_option linter.unusedVariables false
set_option linter.unusedSimpArgs false
set_option maxRecDepth 1000000

theorem text_c (s : ByteArray) (W : World) : Calls Tryd.prog 34 #[.iface 9 (.string s)] W fun e w' => e = .returned (.string s) ∧ w' = W := by
  have hta : ∀ w, (Instr.typeAssert (.iface 9 (.string s)) 20 9 true).run Tryd.prog w = .ok (.tuple #[.string s, .bool true]) w := fun _ => by kernel_rfl
  go_enter Tryd.func34, Tryd.ntmps34
  go_wp2
  go_ret
  exact ⟨rfl, rfl⟩
theorem low_c (l : List UInt8) (hl : l.length ≤ 1000) (hp : ∀ c ∈ l, okc c) (W : World) :
    Calls Tryd.prog 38 #[.string (ofL l)] W fun e w' => e = .returned (.string (ofL (Lib.toLowerA l))) ∧ Below W.heap.size W w' := by
  refine (Tryd.strings_ToLower_ascii (ofL l) W (by rw [ofL_size]; omega) (fun j b hj => by
    rw [ofL_data] at hj
    exact hp b (List.mem_of_getElem? hj))).mono ?_
  rintro e w' ⟨rfl, hb⟩
  rw [ofL_data]
  exact ⟨rfl, hb⟩
theorem below_dr {W W1 w' : World} (h : Below W.heap.size W W1) (hd : Drawn0 W1 w') : Below W.heap.size W w' := by
  obtain ⟨n, rfl⟩ := hd
  exact pw_below_drewN h n
theorem contains_c (p : Option Addr) (t s : List UInt8) (fold : Bool) (ht : t.length ≤ 1000) (hs : s.length ≤ 1000) (hpt : ∀ c ∈ t, okc c) (hps : ∀ c ∈ s, okc c) (W : World) :
    Calls Tryd.prog 26 #[.pointer p, .string (ofL t), .iface 9 (.string (ofL s)), .bool fold] W fun e w' => e = .returned (.bool (hasL (lw fold s) (lw fold t))) ∧ Below W.heap.size W w' := by
  have X := fun W => Aside0.mk (text_c (ofL s) W)
  cases fold with
  | false =>
    have H := fun W => Aside0.mk (has_c t s ht hs W)
    unfold lw
    simp only [Bool.false_eq_true, if_false]
    clear hpt hps
    go_enter Tryd.func26, Tryd.ntmps26
    go_wp2_with (first
      | (go_at_call 34; refine (X _).out.mono ?_; rintro e w1 ⟨rfl, rfl⟩)
      | (go_at_call 37; refine (H _).out.mono ?_; rintro e w2 ⟨rfl, hd⟩; have HD := Aside0.mk hd; clear hd))
    go_ret
    exact ⟨rfl, below_dr (Below.refl _ _) HD.out⟩
  | true =>
    have L1 := fun W => Aside0.mk (low_c t ht hpt W)
    have L2 := fun W => Aside0.mk (low_c s hs hps W)
    have H := fun W => Aside0.mk (has_c (Lib.toLowerA t) (Lib.toLowerA s) (by unfold Lib.toLowerA; rw [List.length_map]; exact ht) (by unfold Lib.toLowerA; rw [List.length_map]; exact hs) W)
    unfold lw
    simp only [if_true]
    clear hpt hps
    go_enter Tryd.func26, Tryd.ntmps26
    go_wp2_with (first
      | (go_at_call 34; refine (X _).out.mono ?_; rintro e w1 ⟨rfl, rfl⟩)
      | (go_at_call_of 38 (Value.string (ofL t)); refine (L1 _).out.mono ?_; rintro e w2 ⟨rfl, hb⟩; have HB2 := Aside0.mk hb; clear hb)
      | (go_at_call_of 38 (Value.string (ofL s)); refine (L2 _).out.mono ?_; rintro e w3 ⟨rfl, hb⟩; have HB3 := Aside0.mk hb; clear hb)
      | (go_at_call 37; refine (H _).out.mono ?_; rintro e w4 ⟨rfl, hd⟩; have HD := Aside0.mk hd; clear hd))
    go_ret
    exact ⟨rfl, below_dr (HB2.out.trans (HB3.out.mono HB2.out.size)) HD.out⟩
end Go.Proofs.YtjioibigijflpaaDoor.MatW
