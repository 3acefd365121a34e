/-
  Proved: what impl.TwSymbolsCustom returns: the name, and its symbols, the last one told for each place. Conditions: each place from 0 to 13, at least as many texts as places.
-/
import Derived.Test.YtjoagjkmghmnnaaGivenSym0
import Derived.Test.YtjoagjkmghmnnaaCommon
namespace Go.Proofs.Ytjoagjkmghmnnaa.GivenSym
open Go.RowKit Go.Proofs.YtjoagjkmghmnnaaW.PrintWords Go.Proofs.Ytjoagjkmghmnnaa.Common
set_option linter.unusedVariables false

def symFold : List Int → List ByteArray → List ByteArray → List ByteArray
  | n :: ns, t :: ts, p => symFold ns ts (p.set n.toNat t)
  | _, _, p => p
def sym0 : List ByteArray := [⟨#[43]⟩, ⟨#[45]⟩, ⟨#[124]⟩, ⟨#[]⟩, ⟨#[]⟩, ⟨#[]⟩, ⟨#[]⟩, ⟨#[]⟩, ⟨#[]⟩, ⟨#[]⟩, ⟨#[]⟩, ⟨#[]⟩, ⟨#[]⟩, ⟨#[]⟩]
def impl_TwSymbolsCustom.f (name : ByteArray) (which : List Int) (texts : List ByteArray) : Option (ByteArray × List ByteArray) :=
  if (∀ n ∈ which, 0 ≤ n ∧ n < 14) ∧ which.length ≤ texts.length then some (name, symFold which texts sym0) else none

def SymB (w : World) (g : Nat) (name : ByteArray) (p : List ByteArray) : Prop := p.length = 14 ∧ w.heap[g]? = some (.cells (Value.string name :: p.map Value.string).toArray 170 (0, 0))

theorem new_any (name : ByteArray) (w : World) : Calls Try.prog 56 #[.string name] w fun e w' => e = .returned (.pointer (some ⟨w.heap.size, 0, none⟩)) ∧ SymB w' w.heap.size name sym0 ∧ Below w.heap.size w w' := by
  go_enter Try.func56, Try.ntmps56
  go_wp2
  go_ret
  exact ⟨rfl, ⟨rfl, heap_alloc_new w _⟩, (Below.refl _ _).alloc (Nat.le_refl _) _⟩
theorem get0 (g : Nat) (s : ByteArray) (w : World) (hc : w.cell? ⟨g, 0, none⟩ = some (.string s)) :
    Calls Try.prog 182 #[.pointer (some ⟨g, 0, none⟩)] w fun e w' => e = .returned (.string s) ∧ w' = w := by
  go_enter Try.func182, Try.ntmps182
  go_wp2
  go_ret
  exact ⟨rfl, rfl⟩
theorem meth0 (a : Addr) (w : World) : (method 341 115 (.pointer (some a)) "Name").run Try.prog w = .ok (182, .pointer (some a)) w := by kernel_rfl
theorem get1 (g : Nat) (s : ByteArray) (w : World) (hc : w.cell? ⟨g, 1, none⟩ = some (.string s)) :
    Calls Try.prog 175 #[.pointer (some ⟨g, 0, none⟩)] w fun e w' => e = .returned (.string s) ∧ w' = w := by
  go_enter Try.func175, Try.ntmps175
  go_wp2
  go_ret
  exact ⟨rfl, rfl⟩
theorem meth1 (a : Addr) (w : World) : (method 341 115 (.pointer (some a)) "Center").run Try.prog w = .ok (175, .pointer (some a)) w := by kernel_rfl
theorem get2 (g : Nat) (s : ByteArray) (w : World) (hc : w.cell? ⟨g, 2, none⟩ = some (.string s)) :
    Calls Try.prog 183 #[.pointer (some ⟨g, 0, none⟩)] w fun e w' => e = .returned (.string s) ∧ w' = w := by
  go_enter Try.func183, Try.ntmps183
  go_wp2
  go_ret
  exact ⟨rfl, rfl⟩
theorem meth2 (a : Addr) (w : World) : (method 341 115 (.pointer (some a)) "Row").run Try.prog w = .ok (183, .pointer (some a)) w := by kernel_rfl
theorem get3 (g : Nat) (s : ByteArray) (w : World) (hc : w.cell? ⟨g, 3, none⟩ = some (.string s)) :
    Calls Try.prog 176 #[.pointer (some ⟨g, 0, none⟩)] w fun e w' => e = .returned (.string s) ∧ w' = w := by
  go_enter Try.func176, Try.ntmps176
  go_wp2
  go_ret
  exact ⟨rfl, rfl⟩
theorem meth3 (a : Addr) (w : World) : (method 341 115 (.pointer (some a)) "Column").run Try.prog w = .ok (176, .pointer (some a)) w := by kernel_rfl
theorem get4 (g : Nat) (s : ByteArray) (w : World) (hc : w.cell? ⟨g, 4, none⟩ = some (.string s)) :
    Calls Try.prog 184 #[.pointer (some ⟨g, 0, none⟩)] w fun e w' => e = .returned (.string s) ∧ w' = w := by
  go_enter Try.func184, Try.ntmps184
  go_wp2
  go_ret
  exact ⟨rfl, rfl⟩
theorem meth4 (a : Addr) (w : World) : (method 341 115 (.pointer (some a)) "TopLeft").run Try.prog w = .ok (184, .pointer (some a)) w := by kernel_rfl
theorem get5 (g : Nat) (s : ByteArray) (w : World) (hc : w.cell? ⟨g, 5, none⟩ = some (.string s)) :
    Calls Try.prog 185 #[.pointer (some ⟨g, 0, none⟩)] w fun e w' => e = .returned (.string s) ∧ w' = w := by
  go_enter Try.func185, Try.ntmps185
  go_wp2
  go_ret
  exact ⟨rfl, rfl⟩
theorem meth5 (a : Addr) (w : World) : (method 341 115 (.pointer (some a)) "TopMid").run Try.prog w = .ok (185, .pointer (some a)) w := by kernel_rfl
theorem get6 (g : Nat) (s : ByteArray) (w : World) (hc : w.cell? ⟨g, 6, none⟩ = some (.string s)) :
    Calls Try.prog 186 #[.pointer (some ⟨g, 0, none⟩)] w fun e w' => e = .returned (.string s) ∧ w' = w := by
  go_enter Try.func186, Try.ntmps186
  go_wp2
  go_ret
  exact ⟨rfl, rfl⟩
theorem meth6 (a : Addr) (w : World) : (method 341 115 (.pointer (some a)) "TopRight").run Try.prog w = .ok (186, .pointer (some a)) w := by kernel_rfl
theorem get7 (g : Nat) (s : ByteArray) (w : World) (hc : w.cell? ⟨g, 7, none⟩ = some (.string s)) :
    Calls Try.prog 180 #[.pointer (some ⟨g, 0, none⟩)] w fun e w' => e = .returned (.string s) ∧ w' = w := by
  go_enter Try.func180, Try.ntmps180
  go_wp2
  go_ret
  exact ⟨rfl, rfl⟩
theorem meth7 (a : Addr) (w : World) : (method 341 115 (.pointer (some a)) "MidLeft").run Try.prog w = .ok (180, .pointer (some a)) w := by kernel_rfl
theorem get8 (g : Nat) (s : ByteArray) (w : World) (hc : w.cell? ⟨g, 8, none⟩ = some (.string s)) :
    Calls Try.prog 181 #[.pointer (some ⟨g, 0, none⟩)] w fun e w' => e = .returned (.string s) ∧ w' = w := by
  go_enter Try.func181, Try.ntmps181
  go_wp2
  go_ret
  exact ⟨rfl, rfl⟩
theorem meth8 (a : Addr) (w : World) : (method 341 115 (.pointer (some a)) "MidRight").run Try.prog w = .ok (181, .pointer (some a)) w := by kernel_rfl
theorem get9 (g : Nat) (s : ByteArray) (w : World) (hc : w.cell? ⟨g, 9, none⟩ = some (.string s)) :
    Calls Try.prog 172 #[.pointer (some ⟨g, 0, none⟩)] w fun e w' => e = .returned (.string s) ∧ w' = w := by
  go_enter Try.func172, Try.ntmps172
  go_wp2
  go_ret
  exact ⟨rfl, rfl⟩
theorem meth9 (a : Addr) (w : World) : (method 341 115 (.pointer (some a)) "BottomLeft").run Try.prog w = .ok (172, .pointer (some a)) w := by kernel_rfl
theorem get10 (g : Nat) (s : ByteArray) (w : World) (hc : w.cell? ⟨g, 10, none⟩ = some (.string s)) :
    Calls Try.prog 173 #[.pointer (some ⟨g, 0, none⟩)] w fun e w' => e = .returned (.string s) ∧ w' = w := by
  go_enter Try.func173, Try.ntmps173
  go_wp2
  go_ret
  exact ⟨rfl, rfl⟩
theorem meth10 (a : Addr) (w : World) : (method 341 115 (.pointer (some a)) "BottomMid").run Try.prog w = .ok (173, .pointer (some a)) w := by kernel_rfl
theorem get11 (g : Nat) (s : ByteArray) (w : World) (hc : w.cell? ⟨g, 11, none⟩ = some (.string s)) :
    Calls Try.prog 174 #[.pointer (some ⟨g, 0, none⟩)] w fun e w' => e = .returned (.string s) ∧ w' = w := by
  go_enter Try.func174, Try.ntmps174
  go_wp2
  go_ret
  exact ⟨rfl, rfl⟩
theorem meth11 (a : Addr) (w : World) : (method 341 115 (.pointer (some a)) "BottomRight").run Try.prog w = .ok (174, .pointer (some a)) w := by kernel_rfl
theorem get12 (g : Nat) (s : ByteArray) (w : World) (hc : w.cell? ⟨g, 12, none⟩ = some (.string s)) :
    Calls Try.prog 177 #[.pointer (some ⟨g, 0, none⟩)] w fun e w' => e = .returned (.string s) ∧ w' = w := by
  go_enter Try.func177, Try.ntmps177
  go_wp2
  go_ret
  exact ⟨rfl, rfl⟩
theorem meth12 (a : Addr) (w : World) : (method 341 115 (.pointer (some a)) "HeaderLeft").run Try.prog w = .ok (177, .pointer (some a)) w := by kernel_rfl
theorem get13 (g : Nat) (s : ByteArray) (w : World) (hc : w.cell? ⟨g, 13, none⟩ = some (.string s)) :
    Calls Try.prog 178 #[.pointer (some ⟨g, 0, none⟩)] w fun e w' => e = .returned (.string s) ∧ w' = w := by
  go_enter Try.func178, Try.ntmps178
  go_wp2
  go_ret
  exact ⟨rfl, rfl⟩
theorem meth13 (a : Addr) (w : World) : (method 341 115 (.pointer (some a)) "HeaderMid").run Try.prog w = .ok (178, .pointer (some a)) w := by kernel_rfl
theorem get14 (g : Nat) (s : ByteArray) (w : World) (hc : w.cell? ⟨g, 14, none⟩ = some (.string s)) :
    Calls Try.prog 179 #[.pointer (some ⟨g, 0, none⟩)] w fun e w' => e = .returned (.string s) ∧ w' = w := by
  go_enter Try.func179, Try.ntmps179
  go_wp2
  go_ret
  exact ⟨rfl, rfl⟩
theorem meth14 (a : Addr) (w : World) : (method 341 115 (.pointer (some a)) "HeaderRight").run Try.prog w = .ok (179, .pointer (some a)) w := by kernel_rfl
set_option maxRecDepth 100000 in
set_option maxHeartbeats 4000000 in
theorem symbols_any (g : Nat) (nm p0 p1 p2 p3 p4 p5 p6 p7 p8 p9 p10 p11 p12 p13 : ByteArray) (w : World) (h : w.heap[g]? = some (.cells #[.string nm, .string p0, .string p1, .string p2, .string p3, .string p4, .string p5, .string p6, .string p7, .string p8, .string p9, .string p10, .string p11, .string p12, .string p13] 170 (0, 0))) :
    Calls Try.prog 58 #[.iface 115 (.pointer (some ⟨g, 0, none⟩))] w fun e w' => ∃ v : Value, e = .returned (.agg #[.string nm, v]) ∧ Kd.R Kd.string 9 w' w.heap.size (fun _ => True) v [p0, p1, p2, p3, p4, p5, p6, p7, p8, p9, p10, p11, p12, p13] ∧ Below w.heap.size w w' := by
  have hg : g < w.heap.size := (Array.getElem?_eq_some_iff.1 h).1
  have hcell : ∀ (o : Obj) (j : Nat), (w.alloc o).cell? ⟨g, j, none⟩ = (#[.string nm, .string p0, .string p1, .string p2, .string p3, .string p4, .string p5, .string p6, .string p7, .string p8, .string p9, .string p10, .string p11, .string p12, .string p13] : Array Value)[j]? := fun o j => (World.cell?_alloc_lt w o _ hg).trans (cell_of_row w g j _ 170 (0, 0) h)
  have C0 : Aside0 (Calls Try.prog 182 #[.pointer (some ⟨g, 0, none⟩)] (w.alloc (Obj.cells #[Value.string ⟨#[]⟩, Value.slice none 0 0] 48)) fun e w' => e = .returned (.string nm) ∧ w' = w.alloc (Obj.cells #[Value.string ⟨#[]⟩, Value.slice none 0 0] 48)) := ⟨get0 g nm _ (hcell _ 0)⟩
  have M0 := fun w => meth0 ⟨g, 0, none⟩ w
  have C1 : Aside0 (Calls Try.prog 175 #[.pointer (some ⟨g, 0, none⟩)] (w.alloc (Obj.cells #[Value.string ⟨#[]⟩, Value.slice none 0 0] 48)) fun e w' => e = .returned (.string p0) ∧ w' = w.alloc (Obj.cells #[Value.string ⟨#[]⟩, Value.slice none 0 0] 48)) := ⟨get1 g p0 _ (hcell _ 1)⟩
  have M1 := fun w => meth1 ⟨g, 0, none⟩ w
  have C2 : Aside0 (Calls Try.prog 183 #[.pointer (some ⟨g, 0, none⟩)] (w.alloc (Obj.cells #[Value.string ⟨#[]⟩, Value.slice none 0 0] 48)) fun e w' => e = .returned (.string p1) ∧ w' = w.alloc (Obj.cells #[Value.string ⟨#[]⟩, Value.slice none 0 0] 48)) := ⟨get2 g p1 _ (hcell _ 2)⟩
  have M2 := fun w => meth2 ⟨g, 0, none⟩ w
  have C3 : Aside0 (Calls Try.prog 176 #[.pointer (some ⟨g, 0, none⟩)] (w.alloc (Obj.cells #[Value.string ⟨#[]⟩, Value.slice none 0 0] 48)) fun e w' => e = .returned (.string p2) ∧ w' = w.alloc (Obj.cells #[Value.string ⟨#[]⟩, Value.slice none 0 0] 48)) := ⟨get3 g p2 _ (hcell _ 3)⟩
  have M3 := fun w => meth3 ⟨g, 0, none⟩ w
  have C4 : Aside0 (Calls Try.prog 184 #[.pointer (some ⟨g, 0, none⟩)] (w.alloc (Obj.cells #[Value.string ⟨#[]⟩, Value.slice none 0 0] 48)) fun e w' => e = .returned (.string p3) ∧ w' = w.alloc (Obj.cells #[Value.string ⟨#[]⟩, Value.slice none 0 0] 48)) := ⟨get4 g p3 _ (hcell _ 4)⟩
  have M4 := fun w => meth4 ⟨g, 0, none⟩ w
  have C5 : Aside0 (Calls Try.prog 185 #[.pointer (some ⟨g, 0, none⟩)] (w.alloc (Obj.cells #[Value.string ⟨#[]⟩, Value.slice none 0 0] 48)) fun e w' => e = .returned (.string p4) ∧ w' = w.alloc (Obj.cells #[Value.string ⟨#[]⟩, Value.slice none 0 0] 48)) := ⟨get5 g p4 _ (hcell _ 5)⟩
  have M5 := fun w => meth5 ⟨g, 0, none⟩ w
  have C6 : Aside0 (Calls Try.prog 186 #[.pointer (some ⟨g, 0, none⟩)] (w.alloc (Obj.cells #[Value.string ⟨#[]⟩, Value.slice none 0 0] 48)) fun e w' => e = .returned (.string p5) ∧ w' = w.alloc (Obj.cells #[Value.string ⟨#[]⟩, Value.slice none 0 0] 48)) := ⟨get6 g p5 _ (hcell _ 6)⟩
  have M6 := fun w => meth6 ⟨g, 0, none⟩ w
  have C7 : Aside0 (Calls Try.prog 180 #[.pointer (some ⟨g, 0, none⟩)] (w.alloc (Obj.cells #[Value.string ⟨#[]⟩, Value.slice none 0 0] 48)) fun e w' => e = .returned (.string p6) ∧ w' = w.alloc (Obj.cells #[Value.string ⟨#[]⟩, Value.slice none 0 0] 48)) := ⟨get7 g p6 _ (hcell _ 7)⟩
  have M7 := fun w => meth7 ⟨g, 0, none⟩ w
  have C8 : Aside0 (Calls Try.prog 181 #[.pointer (some ⟨g, 0, none⟩)] (w.alloc (Obj.cells #[Value.string ⟨#[]⟩, Value.slice none 0 0] 48)) fun e w' => e = .returned (.string p7) ∧ w' = w.alloc (Obj.cells #[Value.string ⟨#[]⟩, Value.slice none 0 0] 48)) := ⟨get8 g p7 _ (hcell _ 8)⟩
  have M8 := fun w => meth8 ⟨g, 0, none⟩ w
  have C9 : Aside0 (Calls Try.prog 172 #[.pointer (some ⟨g, 0, none⟩)] (w.alloc (Obj.cells #[Value.string ⟨#[]⟩, Value.slice none 0 0] 48)) fun e w' => e = .returned (.string p8) ∧ w' = w.alloc (Obj.cells #[Value.string ⟨#[]⟩, Value.slice none 0 0] 48)) := ⟨get9 g p8 _ (hcell _ 9)⟩
  have M9 := fun w => meth9 ⟨g, 0, none⟩ w
  have C10 : Aside0 (Calls Try.prog 173 #[.pointer (some ⟨g, 0, none⟩)] (w.alloc (Obj.cells #[Value.string ⟨#[]⟩, Value.slice none 0 0] 48)) fun e w' => e = .returned (.string p9) ∧ w' = w.alloc (Obj.cells #[Value.string ⟨#[]⟩, Value.slice none 0 0] 48)) := ⟨get10 g p9 _ (hcell _ 10)⟩
  have M10 := fun w => meth10 ⟨g, 0, none⟩ w
  have C11 : Aside0 (Calls Try.prog 174 #[.pointer (some ⟨g, 0, none⟩)] (w.alloc (Obj.cells #[Value.string ⟨#[]⟩, Value.slice none 0 0] 48)) fun e w' => e = .returned (.string p10) ∧ w' = w.alloc (Obj.cells #[Value.string ⟨#[]⟩, Value.slice none 0 0] 48)) := ⟨get11 g p10 _ (hcell _ 11)⟩
  have M11 := fun w => meth11 ⟨g, 0, none⟩ w
  have C12 : Aside0 (Calls Try.prog 177 #[.pointer (some ⟨g, 0, none⟩)] (w.alloc (Obj.cells #[Value.string ⟨#[]⟩, Value.slice none 0 0] 48)) fun e w' => e = .returned (.string p11) ∧ w' = w.alloc (Obj.cells #[Value.string ⟨#[]⟩, Value.slice none 0 0] 48)) := ⟨get12 g p11 _ (hcell _ 12)⟩
  have M12 := fun w => meth12 ⟨g, 0, none⟩ w
  have C13 : Aside0 (Calls Try.prog 178 #[.pointer (some ⟨g, 0, none⟩)] (w.alloc (Obj.cells #[Value.string ⟨#[]⟩, Value.slice none 0 0] 48)) fun e w' => e = .returned (.string p12) ∧ w' = w.alloc (Obj.cells #[Value.string ⟨#[]⟩, Value.slice none 0 0] 48)) := ⟨get13 g p12 _ (hcell _ 13)⟩
  have M13 := fun w => meth13 ⟨g, 0, none⟩ w
  have C14 : Aside0 (Calls Try.prog 179 #[.pointer (some ⟨g, 0, none⟩)] (w.alloc (Obj.cells #[Value.string ⟨#[]⟩, Value.slice none 0 0] 48)) fun e w' => e = .returned (.string p13) ∧ w' = w.alloc (Obj.cells #[Value.string ⟨#[]⟩, Value.slice none 0 0] 48)) := ⟨get14 g p13 _ (hcell _ 14)⟩
  have M14 := fun w => meth14 ⟨g, 0, none⟩ w
  clear hcell
  clear h
  go_enter Try.func58, Try.ntmps58
  go_wp2_with (first  | (go_at_call 182; refine C0.out.mono ?_; rintro e w' ⟨rfl, rfl⟩) | (go_at_call 175; refine C1.out.mono ?_; rintro e w' ⟨rfl, rfl⟩) | (go_at_call 183; refine C2.out.mono ?_; rintro e w' ⟨rfl, rfl⟩) | (go_at_call 176; refine C3.out.mono ?_; rintro e w' ⟨rfl, rfl⟩) | (go_at_call 184; refine C4.out.mono ?_; rintro e w' ⟨rfl, rfl⟩) | (go_at_call 185; refine C5.out.mono ?_; rintro e w' ⟨rfl, rfl⟩) | (go_at_call 186; refine C6.out.mono ?_; rintro e w' ⟨rfl, rfl⟩) | (go_at_call 180; refine C7.out.mono ?_; rintro e w' ⟨rfl, rfl⟩) | (go_at_call 181; refine C8.out.mono ?_; rintro e w' ⟨rfl, rfl⟩) | (go_at_call 172; refine C9.out.mono ?_; rintro e w' ⟨rfl, rfl⟩) | (go_at_call 173; refine C10.out.mono ?_; rintro e w' ⟨rfl, rfl⟩) | (go_at_call 174; refine C11.out.mono ?_; rintro e w' ⟨rfl, rfl⟩) | (go_at_call 177; refine C12.out.mono ?_; rintro e w' ⟨rfl, rfl⟩) | (go_at_call 178; refine C13.out.mono ?_; rintro e w' ⟨rfl, rfl⟩) | (go_at_call 179; refine C14.out.mono ?_; rintro e w' ⟨rfl, rfl⟩))
  refine bodyPost_ret (v := .agg #[.string nm, .slice (some ⟨w.heap.size + 1, 0, none⟩) 14 14]) ?_ rfl ⟨_, rfl, ?_, ((Below.refl _ _).alloc (Nat.le_refl _) _).alloc (by simp) _⟩
  · simp [results, Try.results58, go_sem]
  · have h := World.ownsRow_lit (base := w.heap.size) (e := 9) (size := 1) (w.alloc (Obj.cells #[Value.string nm, Value.slice (some ⟨w.heap.size + 1, 0, none⟩) 14 14] 48)) #[.string p0, .string p1, .string p2, .string p3, .string p4, .string p5, .string p6, .string p7, .string p8, .string p9, .string p10, .string p11, .string p12, .string p13] 14 (by simp) (by decide) (by simp)
    simp only [World.size_alloc] at h
    exact Kd.R_of_own (enc := Value.string) (h1 := fun _ => rfl) h (fun _ _ => trivial)
theorem custom_any (g : Nat) (n : Int) (h0 : 0 ≤ n) (h1 : n < 14) (s : ByteArray) (name : ByteArray) (p : List ByteArray) (w : World) (h : SymB w g name p) :
    Calls Try.prog 57 #[.pointer (some ⟨g, 0, none⟩), .int .i64 n, .string s] w fun e w' => e = .returned (.tuple #[]) ∧ SymB w' g name (p.set n.toNat s) ∧ (∀ B, B ≤ g → Below B w w') := by
  obtain ⟨hl, hb⟩ := h
  have hc : ∀ j : Nat, (hj : j < 14) → w.cell? ⟨g, j + 1, none⟩ = some (.string (p[j]'(by omega))) := by
    intro j hj
    rw [cell_of_row w g (j + 1) _ 170 (0, 0) hb]
    simp [List.getElem?_eq_getElem (show j < p.length by omega)]
  have hf : ∀ j : Nat, w.frozen? ⟨g, j, none⟩ = false := fun j => by simp [World.frozen?, hb]
  have hfin : ∀ j : Nat, j < 14 → SymB (w.setCell ⟨g, j + 1, none⟩ (.string s)) g name (p.set j s) := by
    intro j hj
    refine ⟨by simpa using hl, ?_⟩
    simp only [World.setCell, Array.getElem?_modify, if_true, hb, Option.map_some]
    congr 2
    simp [List.map_set]
  have hbel : ∀ j : Nat, ∀ B, B ≤ g → Below B w (w.setCell ⟨g, j + 1, none⟩ (.string s)) := fun j B hB => (Below.refl B w).setCell (p := ⟨g, j + 1, none⟩) hB _
  have key : ∀ j : Nat, j < 14 → (Calls Try.prog 57 #[.pointer (some ⟨g, 0, none⟩), .int .i64 (j : Int), .string s] w fun e w' => e = .returned (.tuple #[]) ∧ w' = w.setCell ⟨g, j + 1, none⟩ (.string s)) := by
    intro j hj
    match j, hj with
    | 0, _ => exact custom0 g s _ w (hc 0 (by omega)) (hf _)
    | 1, _ => exact custom1 g s _ w (hc 1 (by omega)) (hf _)
    | 2, _ => exact custom2 g s _ w (hc 2 (by omega)) (hf _)
    | 3, _ => exact custom3 g s _ w (hc 3 (by omega)) (hf _)
    | 4, _ => exact custom4 g s _ w (hc 4 (by omega)) (hf _)
    | 5, _ => exact custom5 g s _ w (hc 5 (by omega)) (hf _)
    | 6, _ => exact custom6 g s _ w (hc 6 (by omega)) (hf _)
    | 7, _ => exact custom7 g s _ w (hc 7 (by omega)) (hf _)
    | 8, _ => exact custom8 g s _ w (hc 8 (by omega)) (hf _)
    | 9, _ => exact custom9 g s _ w (hc 9 (by omega)) (hf _)
    | 10, _ => exact custom10 g s _ w (hc 10 (by omega)) (hf _)
    | 11, _ => exact custom11 g s _ w (hc 11 (by omega)) (hf _)
    | 12, _ => exact custom12 g s _ w (hc 12 (by omega)) (hf _)
    | 13, _ => exact custom13 g s _ w (hc 13 (by omega)) (hf _)
  obtain ⟨j, rfl⟩ := Int.eq_ofNat_of_zero_le h0
  refine (key j (by omega)).mono fun e w' ⟨he, hw⟩ => ?_
  subst hw
  exact ⟨he, hfin j (by omega), hbel j⟩
theorem symbols_any' (g : Nat) (nm : ByteArray) (p : List ByteArray) (w : World) (h : SymB w g nm p) :
    Calls Try.prog 58 #[.iface 115 (.pointer (some ⟨g, 0, none⟩))] w fun e w' => ∃ v : Value, e = .returned (.agg #[.string nm, v]) ∧ Kd.R Kd.string 9 w' w.heap.size (fun _ => True) v p ∧ Below w.heap.size w w' := by
  obtain ⟨hl, hb⟩ := h
  match p, hl, hb with
  | [p0, p1, p2, p3, p4, p5, p6, p7, p8, p9, p10, p11, p12, p13], _, hb => exact symbols_any g nm p0 p1 p2 p3 p4 p5 p6 p7 p8 p9 p10 p11 p12 p13 w hb
end Go.Proofs.Ytjoagjkmghmnnaa.GivenSym
