/-
  Proved: what text.Escape returns, as a plain function over bytes. Conditions: texts of at most 100000 bytes, a sequence that is not empty.
-/
import Derived.Test.YtkfkhafmgndgaaaRRDoorRepl
import Derived.Test.YtkfkhafmgndgaaaRRDoorShEsc
import Derived.WalkKit
import Derived.BigCall
namespace Go.Proofs.YtkfkhafmgndgaaaRRDoor.Esc
open Go.RowKit Go.Proofs.YtkfkhafmgndgaaaRRDoorW.PrintWords Go.Proofs.YtkfkhafmgndgaaaRRDoor.Repl Go.Proofs.YtkfkhafmgndgaaaRRDoor.Common Go.Proofs.YtkfkhafmgndgaaaRRDoor.GE
set_option linter.unusedVariables false

def reset : List UInt8 := [27, 91, 48, 109]
def esc1 (s q : List UInt8) : List UInt8 := if Lib.hasPrefix s [27, 91] = true then replL reset (reset ++ q) s.length s else q ++ replL reset (reset ++ q) s.length s
def esc2 (s q : List UInt8) : List UInt8 := if Lib.hasSuffix (esc1 s q) reset = true then esc1 s q else esc1 s q ++ reset
def esc (s q : List UInt8) : List UInt8 := if hasL (q ++ reset) (esc2 s q) = true then replL (q ++ reset) [] (esc2 s q).length (esc2 s q) else esc2 s q

theorem repl_len (old new : List UInt8) (h0 : 0 < old.length) (n : Nat) : ∀ l : List UInt8, (replL old new n l).length ≤ l.length * (new.length + 1) := by
  induction n with
  | zero => intro l; exact Nat.le_mul_of_pos_right _ (by omega)
  | succ n ih =>
    intro l
    have hmul : l.length ≤ l.length * (new.length + 1) := Nat.le_mul_of_pos_right _ (by omega)
    rw [replL]
    cases hf : findSub old l with
    | none => exact hmul
    | some j =>
      obtain ⟨hj, _⟩ := findSub_some _ _ _ hf
      have h1 := ih (l.drop (j + old.length))
      rw [List.length_drop] at h1
      simp only [List.length_append, List.length_take]
      have e : l.length = (l.length - (j + old.length)) + (j + old.length) := by omega
      have h2 : l.length * (new.length + 1) = (l.length - (j + old.length)) * (new.length + 1) + (j + old.length) * (new.length + 1) := by
        rw [← Nat.add_mul, ← e]
      have h3 : j + new.length ≤ (j + old.length) * (new.length + 1) := by
        rw [Nat.add_mul]
        have := Nat.le_mul_of_pos_right j (show 0 < new.length + 1 by omega)
        have := Nat.le_mul_of_pos_left (new.length + 1) h0
        omega
      omega
theorem builder_below {B b : Nat} {bs : List Value} {W W' : World} (h : Lib.IsBuilderF 54 5 B b bs W) (hb : Below W.heap.size W W') : Lib.IsBuilderF 54 5 B b bs W' := by
  have at_ : ∀ p : Value, Lib.BuilderAtF 54 5 B b p bs W → Lib.BuilderAtF 54 5 B b p bs W' := fun p h => by
    have hlt := h.lt
    obtain ⟨hB, v, hv, hown, hne⟩ := h
    exact ⟨hB, v, (hb.block b hlt).trans hv, hown.kept (row := none) ⟨hb.os, hb.tape, hb.output, hb.size, fun k hk _ => hb.block k hk⟩ (Classical.em _), hne⟩
  exact h.elim (fun x => .inl (at_ _ x)) (fun x => .inr (at_ _ x))
theorem wr (B : Nat) (l : List UInt8) (s : ByteArray) (w : World) (h : Lib.IsBuilderF 54 5 B B (Lib.byteCells l) w) (hlen : l.length + s.size ≤ 140737488355328) (hBw : B ≤ w.heap.size) :
    Calls Tryd.prog 39 #[.pointer (some ⟨B, 0, none⟩), .string s] w fun e w' => e = .returned (.tuple #[.int .i64 s.size, .nilIface]) ∧ Lib.IsBuilderF 54 5 B B (Lib.byteCells (l ++ s.data.toList)) w' ∧ Below B w w' := by
  refine (Tryd.Builder_WriteString_k B B _ s w h (by rw [Lib.byteCells_length]; exact hlen) hBw).mono ?_
  rintro e w' ⟨rfl, h1, h2, _⟩
  refine ⟨rfl, ?_, h2⟩
  rw [Lib.byteCells_append, ← Lib.strCells_eq]
  exact Or.inr h1
theorem grow (n : Nat) (w : World) (hn : n ≤ 281474976710656) (x : Int) (hx : x = n) :
    Calls Tryd.prog 37 #[.pointer (some ⟨w.heap.size, 0, none⟩), .int .i64 x] (w.alloc (.cells #[.pointer none, .slice none 0 0] 54)) fun e w' => e = .returned (.tuple #[]) ∧ Lib.IsBuilderF 54 5 w.heap.size w.heap.size (Lib.byteCells []) w' ∧ Below w.heap.size w w' := by
  subst hx
  refine (Tryd.Builder_Grow_fresh w.heap.size w.heap.size n _ (Nat.le_refl _) (heap_alloc_new _ _) (by rw [World.size_alloc]; omega) hn).mono ?_
  rintro e w' ⟨rfl, h1, h2⟩
  exact ⟨rfl, Lib.IsBuilderF.of (Or.inr h1), ((Below.refl _ w).alloc (Nat.le_refl _) _).trans h2⟩

theorem wr' (B : Nat) (l l' : List UInt8) (s : ByteArray) (w : World) (h : Lib.IsBuilderF 54 5 B B (Lib.byteCells l) w) (he : l ++ s.data.toList = l') (hlen : l'.length ≤ 140737488355328) (hBw : B ≤ w.heap.size) :
    Calls Tryd.prog 39 #[.pointer (some ⟨B, 0, none⟩), .string s] w fun e w' => e = .returned (.tuple #[.int .i64 s.size, .nilIface]) ∧ Lib.IsBuilderF 54 5 B B (Lib.byteCells l') w' ∧ Below B w w' := by
  subst he
  exact wr B l s w h (by rw [List.length_append, size_l] at hlen; exact hlen) hBw

set_option maxHeartbeats 2000000 in
set_option maxRecDepth 1000000 in
theorem walk0 (s q t r : ByteArray) (hp hf hc : Bool) (C0 C1 C2 : List UInt8) (w : World) (hs : s.size ≤ 100000) (hq : q.size ≤ 100000)
    (E0 : Aside0 (C0 = if hp = true then [] else [] ++ q.data.toList)) (E1 : Aside0 (C0 ++ t.data.toList = C1)) (E2 : Aside0 (if hf = true then C2 = C1 else C1 ++ (⟨#[27, 91, 48, 109]⟩ : ByteArray).data.toList = C2))
    (l0 : Aside0 (C0.length ≤ 140737488355328)) (l1 : Aside0 (C1.length ≤ 140737488355328)) (l2 : Aside0 (C2.length ≤ 140737488355328))
    (HP : ∀ w, Aside0 (Calls Tryd.prog 38 #[.string s, .string ⟨#[27, 91]⟩] w fun e w' => e = .returned (.bool hp) ∧ w' = w))
    (HR : ∀ w, Aside0 (Calls Tryd.prog 40 #[.string s, .string ⟨#[27, 91, 48, 109]⟩, .string (⟨#[27, 91, 48, 109]⟩ ++ q)] w fun e w' => e = .returned (.string t) ∧ Below w.heap.size w w'))
    (HF : ∀ w, Aside0 (Calls Tryd.prog 41 #[.string ⟨C1.toArray⟩, .string ⟨#[27, 91, 48, 109]⟩] w fun e w' => e = .returned (.bool hf) ∧ w' = w))
    (HC : ∀ w, Aside0 (Calls Tryd.prog 43 #[.string ⟨C2.toArray⟩, .string (q ++ ⟨#[27, 91, 48, 109]⟩)] w fun e w' => e = .returned (.bool hc) ∧ Below w.heap.size w w'))
    (HR2 : ∀ w, Aside0 (Calls Tryd.prog 40 #[.string ⟨C2.toArray⟩, .string (q ++ ⟨#[27, 91, 48, 109]⟩), .string ⟨#[]⟩] w fun e w' => e = .returned (.string r) ∧ Below w.heap.size w w')) :
    Calls Tryd.prog 29 #[.string s, .string q] w fun e w' => e = .returned (.string (if hc = true then r else ⟨C2.toArray⟩)) ∧ Below w.heap.size w w' := by
  have hsum1 : 4 + q.size ≤ 9223372036854775807 := by omega
  have hsum2 : q.size + 4 ≤ 9223372036854775807 := by omega
  have G := Aside0.mk (grow (s.size + q.size * 3 + 8) w (by omega) ((s.size : Int) + (q.size : Int) * 3 + 8) (by omega))
  have S0 : hp = false → Aside0 ([] ++ q.data.toList = C0) := fun h => ⟨by have := E0.out; rw [h] at this; simpa using this.symm⟩
  have S1 : hp = true → Aside0 (C0 = []) := fun h => ⟨by have := E0.out; rw [h] at this; simpa using this⟩
  have S2 : hf = false → Aside0 (C1 ++ (⟨#[27, 91, 48, 109]⟩ : ByteArray).data.toList = C2) := fun h => ⟨by have := E2.out; rw [h, if_neg (by simp)] at this; exact this⟩
  have S3 : hf = true → Aside0 (C2 = C1) := fun h => ⟨by have := E2.out; rw [h, if_pos rfl] at this; exact this⟩
  clear E0 E2
  cases hp
  · have W0 := S0 rfl
    clear S0 S1
    cases hf
    · have W2 := S2 rfl
      clear S2 S3
      cases hc
      all_goals
        go_enter Tryd.func29, Tryd.ntmps29
        go_wp2_with (first
          | (go_at_call 37; refine G.out.mono ?_; rintro e w1 ⟨rfl, hi, hb⟩; have HI := Aside0.mk hi; have HB := Aside0.mk hb; clear hi hb)
          | (go_at_call 38; refine (HP _).out.mono ?_; rintro e w2 ⟨rfl, rfl⟩)
          | (go_at_call 39; (first | refine (wr' w.heap.size _ _ _ _ HI.out W0.out l0.out HB.out.size).mono ?_ | refine (wr' w.heap.size _ _ _ _ HI.out E1.out l1.out HB.out.size).mono ?_ | refine (wr' w.heap.size _ _ _ _ HI.out W2.out l2.out HB.out.size).mono ?_); rintro e w3 ⟨rfl, hi, hb⟩; have HI2 := Aside0.mk hi; have HB2 := Aside0.mk (HB.out.trans hb); clear hi hb HI HB; have HI := HI2; have HB := HB2; clear HI2 HB2)
          | (have _g := HCd; go_at_call 40; refine (HR2 _).out.mono ?_; rintro e w8 ⟨rfl, hb⟩; have HB2 := Aside0.mk (HB.out.trans (hb.mono HB.out.size)); clear hb HB _g; have HB := HB2; clear HB2)
          | (go_at_call 40; refine (HR _).out.mono ?_; rintro e w4 ⟨rfl, hb⟩; have HI2 := Aside0.mk (builder_below HI.out hb); have HB2 := Aside0.mk (HB.out.trans (hb.mono HB.out.size)); clear hb HI HB; have HI := HI2; have HB := HB2; clear HI2 HB2)
          | (go_at_call 42; refine (Tryd.Builder_String_any_k w.heap.size w.heap.size _ _ HI.out HB.out.size).mono ?_; rintro e w5 ⟨rfl, hi, hb, _⟩; have HI2 := Aside0.mk hi; have HB2 := Aside0.mk (HB.out.trans hb); clear hi hb HI HB; have HI := HI2; have HB := HB2; clear HI2 HB2)
          | (go_at_call 41; refine (HF _).out.mono ?_; rintro e w6 ⟨rfl, rfl⟩)
          | (go_at_call 43; refine (HC _).out.mono ?_; rintro e w7 ⟨rfl, hb⟩; have HCd := Aside0.mk True.intro; have HB2 := Aside0.mk (HB.out.trans (hb.mono HB.out.size)); clear hb HB; have HB := HB2; clear HB2))
        go_ret
        exact ⟨rfl, HB.out⟩
    · have W3 := S3 rfl
      obtain rfl := W3.out
      clear S2 S3 W3
      cases hc
      all_goals
        go_enter Tryd.func29, Tryd.ntmps29
        go_wp2_with (first
          | (go_at_call 37; refine G.out.mono ?_; rintro e w1 ⟨rfl, hi, hb⟩; have HI := Aside0.mk hi; have HB := Aside0.mk hb; clear hi hb)
          | (go_at_call 38; refine (HP _).out.mono ?_; rintro e w2 ⟨rfl, rfl⟩)
          | (go_at_call 39; (first | refine (wr' w.heap.size _ _ _ _ HI.out W0.out l0.out HB.out.size).mono ?_ | refine (wr' w.heap.size _ _ _ _ HI.out E1.out l1.out HB.out.size).mono ?_ | refine (wr' w.heap.size _ _ _ _ HI.out W2.out l2.out HB.out.size).mono ?_); rintro e w3 ⟨rfl, hi, hb⟩; have HI2 := Aside0.mk hi; have HB2 := Aside0.mk (HB.out.trans hb); clear hi hb HI HB; have HI := HI2; have HB := HB2; clear HI2 HB2)
          | (have _g := HCd; go_at_call 40; refine (HR2 _).out.mono ?_; rintro e w8 ⟨rfl, hb⟩; have HB2 := Aside0.mk (HB.out.trans (hb.mono HB.out.size)); clear hb HB _g; have HB := HB2; clear HB2)
          | (go_at_call 40; refine (HR _).out.mono ?_; rintro e w4 ⟨rfl, hb⟩; have HI2 := Aside0.mk (builder_below HI.out hb); have HB2 := Aside0.mk (HB.out.trans (hb.mono HB.out.size)); clear hb HI HB; have HI := HI2; have HB := HB2; clear HI2 HB2)
          | (go_at_call 42; refine (Tryd.Builder_String_any_k w.heap.size w.heap.size _ _ HI.out HB.out.size).mono ?_; rintro e w5 ⟨rfl, hi, hb, _⟩; have HI2 := Aside0.mk hi; have HB2 := Aside0.mk (HB.out.trans hb); clear hi hb HI HB; have HI := HI2; have HB := HB2; clear HI2 HB2)
          | (go_at_call 41; refine (HF _).out.mono ?_; rintro e w6 ⟨rfl, rfl⟩)
          | (go_at_call 43; refine (HC _).out.mono ?_; rintro e w7 ⟨rfl, hb⟩; have HCd := Aside0.mk True.intro; have HB2 := Aside0.mk (HB.out.trans (hb.mono HB.out.size)); clear hb HB; have HB := HB2; clear HB2))
        go_ret
        exact ⟨rfl, HB.out⟩
  · have W1 := S1 rfl
    obtain rfl := W1.out
    clear S0 S1 W1
    cases hf
    · have W2 := S2 rfl
      clear S2 S3
      cases hc
      all_goals
        go_enter Tryd.func29, Tryd.ntmps29
        go_wp2_with (first
          | (go_at_call 37; refine G.out.mono ?_; rintro e w1 ⟨rfl, hi, hb⟩; have HI := Aside0.mk hi; have HB := Aside0.mk hb; clear hi hb)
          | (go_at_call 38; refine (HP _).out.mono ?_; rintro e w2 ⟨rfl, rfl⟩)
          | (go_at_call 39; (first | refine (wr' w.heap.size _ _ _ _ HI.out W0.out l0.out HB.out.size).mono ?_ | refine (wr' w.heap.size _ _ _ _ HI.out E1.out l1.out HB.out.size).mono ?_ | refine (wr' w.heap.size _ _ _ _ HI.out W2.out l2.out HB.out.size).mono ?_); rintro e w3 ⟨rfl, hi, hb⟩; have HI2 := Aside0.mk hi; have HB2 := Aside0.mk (HB.out.trans hb); clear hi hb HI HB; have HI := HI2; have HB := HB2; clear HI2 HB2)
          | (have _g := HCd; go_at_call 40; refine (HR2 _).out.mono ?_; rintro e w8 ⟨rfl, hb⟩; have HB2 := Aside0.mk (HB.out.trans (hb.mono HB.out.size)); clear hb HB _g; have HB := HB2; clear HB2)
          | (go_at_call 40; refine (HR _).out.mono ?_; rintro e w4 ⟨rfl, hb⟩; have HI2 := Aside0.mk (builder_below HI.out hb); have HB2 := Aside0.mk (HB.out.trans (hb.mono HB.out.size)); clear hb HI HB; have HI := HI2; have HB := HB2; clear HI2 HB2)
          | (go_at_call 42; refine (Tryd.Builder_String_any_k w.heap.size w.heap.size _ _ HI.out HB.out.size).mono ?_; rintro e w5 ⟨rfl, hi, hb, _⟩; have HI2 := Aside0.mk hi; have HB2 := Aside0.mk (HB.out.trans hb); clear hi hb HI HB; have HI := HI2; have HB := HB2; clear HI2 HB2)
          | (go_at_call 41; refine (HF _).out.mono ?_; rintro e w6 ⟨rfl, rfl⟩)
          | (go_at_call 43; refine (HC _).out.mono ?_; rintro e w7 ⟨rfl, hb⟩; have HCd := Aside0.mk True.intro; have HB2 := Aside0.mk (HB.out.trans (hb.mono HB.out.size)); clear hb HB; have HB := HB2; clear HB2))
        go_ret
        exact ⟨rfl, HB.out⟩
    · have W3 := S3 rfl
      obtain rfl := W3.out
      clear S2 S3 W3
      cases hc
      all_goals
        go_enter Tryd.func29, Tryd.ntmps29
        go_wp2_with (first
          | (go_at_call 37; refine G.out.mono ?_; rintro e w1 ⟨rfl, hi, hb⟩; have HI := Aside0.mk hi; have HB := Aside0.mk hb; clear hi hb)
          | (go_at_call 38; refine (HP _).out.mono ?_; rintro e w2 ⟨rfl, rfl⟩)
          | (go_at_call 39; (first | refine (wr' w.heap.size _ _ _ _ HI.out W0.out l0.out HB.out.size).mono ?_ | refine (wr' w.heap.size _ _ _ _ HI.out E1.out l1.out HB.out.size).mono ?_ | refine (wr' w.heap.size _ _ _ _ HI.out W2.out l2.out HB.out.size).mono ?_); rintro e w3 ⟨rfl, hi, hb⟩; have HI2 := Aside0.mk hi; have HB2 := Aside0.mk (HB.out.trans hb); clear hi hb HI HB; have HI := HI2; have HB := HB2; clear HI2 HB2)
          | (have _g := HCd; go_at_call 40; refine (HR2 _).out.mono ?_; rintro e w8 ⟨rfl, hb⟩; have HB2 := Aside0.mk (HB.out.trans (hb.mono HB.out.size)); clear hb HB _g; have HB := HB2; clear HB2)
          | (go_at_call 40; refine (HR _).out.mono ?_; rintro e w4 ⟨rfl, hb⟩; have HI2 := Aside0.mk (builder_below HI.out hb); have HB2 := Aside0.mk (HB.out.trans (hb.mono HB.out.size)); clear hb HI HB; have HI := HI2; have HB := HB2; clear HI2 HB2)
          | (go_at_call 42; refine (Tryd.Builder_String_any_k w.heap.size w.heap.size _ _ HI.out HB.out.size).mono ?_; rintro e w5 ⟨rfl, hi, hb, _⟩; have HI2 := Aside0.mk hi; have HB2 := Aside0.mk (HB.out.trans hb); clear hi hb HI HB; have HI := HI2; have HB := HB2; clear HI2 HB2)
          | (go_at_call 41; refine (HF _).out.mono ?_; rintro e w6 ⟨rfl, rfl⟩)
          | (go_at_call 43; refine (HC _).out.mono ?_; rintro e w7 ⟨rfl, hb⟩; have HCd := Aside0.mk True.intro; have HB2 := Aside0.mk (HB.out.trans (hb.mono HB.out.size)); clear hb HB; have HB := HB2; clear HB2))
        go_ret
        exact ⟨rfl, HB.out⟩

theorem len_ofL (l : List UInt8) : (ofL l).size = l.length := by
  show l.toArray.size = _
  simp
theorem esc_walk (s q : ByteArray) (w : World) (hs : s.size ≤ 100000) (hq : q.size ≤ 100000) (hq0 : 0 < q.size) :
    Calls Tryd.prog 29 #[.string s, .string q] w fun e w' => e = .returned (.string (ofL (esc s.data.toList q.data.toList))) ∧ Below w.heap.size w w' := by
  have hr4 : (⟨#[27, 91, 48, 109]⟩ : ByteArray).size = 4 := rfl
  have hn : ((⟨#[27, 91, 48, 109]⟩ : ByteArray) ++ q).size = 4 + q.size := by rw [ByteArray.size_append]; rfl
  have ho : (q ++ (⟨#[27, 91, 48, 109]⟩ : ByteArray)).size = q.size + 4 := by rw [ByteArray.size_append]; rfl
  have hnd : ((⟨#[27, 91, 48, 109]⟩ : ByteArray) ++ q).data.toList = reset ++ q.data.toList := by rw [ByteArray.data_append]; simp [reset]
  have hod : (q ++ (⟨#[27, 91, 48, 109]⟩ : ByteArray)).data.toList = q.data.toList ++ reset := by rw [ByteArray.data_append]; simp [reset]
  have hmul : s.size * (((⟨#[27, 91, 48, 109]⟩ : ByteArray) ++ q).size + 1) ≤ 100000 * 100005 := Nat.mul_le_mul hs (by omega)
  obtain ⟨k1, h1⟩ := (repl_ev s ⟨#[27, 91, 48, 109]⟩ (⟨#[27, 91, 48, 109]⟩ ++ q) (by omega) (by omega) (by omega) (by omega)).rounds
  rw [hnd, show (⟨#[27, 91, 48, 109]⟩ : ByteArray).data.toList = reset from rfl, ← size_l s] at h1
  have ht := repl_len reset (reset ++ q.data.toList) (by decide) s.data.toList.length s.data.toList
  have hmul2 : s.data.toList.length * ((reset ++ q.data.toList).length + 1) ≤ 100000 * 100005 := by
    rw [size_l]
    exact Nat.mul_le_mul hs (by rw [List.length_append, size_l]; show 4 + q.size + 1 ≤ _; omega)
  have hc1 : (esc1 s.data.toList q.data.toList).length ≤ 20000000000 := by
    unfold esc1
    split
    · omega
    · rw [List.length_append, size_l]; omega
  have hc2 : (esc2 s.data.toList q.data.toList).length ≤ 20000000004 := by
    unfold esc2
    split
    · omega
    · rw [List.length_append]; show _ + 4 ≤ _; omega
  have hs2 : (ofL (esc2 s.data.toList q.data.toList)).size ≤ 20000000004 := by rw [len_ofL]; exact hc2
  obtain ⟨k2, h2⟩ := (repl_ev (ofL (esc2 s.data.toList q.data.toList)) (q ++ ⟨#[27, 91, 48, 109]⟩) ⟨#[]⟩ (by omega) (by omega) (by omega) (by show _ * (0 + 1) < _; omega)).rounds
  rw [hod, len_ofL, ofL_data] at h2
  obtain ⟨k3, h3⟩ := (has_ev (ofL (esc2 s.data.toList q.data.toList)) (q ++ ⟨#[27, 91, 48, 109]⟩) (by omega) (by omega)).rounds
  rw [hod, ofL_data] at h3
  have H := walk0 s q _ _ (Lib.hasPrefix s.data.toList [27, 91]) (Lib.hasSuffix (esc1 s.data.toList q.data.toList) reset) _ (if Lib.hasPrefix s.data.toList [27, 91] = true then [] else [] ++ q.data.toList) (esc1 s.data.toList q.data.toList) (esc2 s.data.toList q.data.toList) w hs hq ⟨rfl⟩
    ⟨by unfold esc1; rw [ofL_data]; split <;> simp⟩ ⟨by unfold esc2; split <;> rfl⟩
    ⟨by split <;> simp [size_l] <;> omega⟩ ⟨by omega⟩ ⟨by omega⟩
    (fun w => ⟨Tryd.strings_HasPrefix s ⟨#[27, 91]⟩ w⟩) (fun w => ⟨(text_zzReplaceAll.calls k1 _ _ _ _ w h1).mono fun e w' h => ⟨h.1, h.2⟩⟩)
    (fun w => ⟨Tryd.strings_HasSuffix (ofL (esc1 s.data.toList q.data.toList)) ⟨#[27, 91, 48, 109]⟩ w (by rw [len_ofL]; omega)⟩)
    (fun w => ⟨(text_zzContains.calls k3 _ _ _ w h3).mono fun e w' h => ⟨h.1, h.2.below⟩⟩)
    (fun w => ⟨(text_zzReplaceAll.calls k2 _ _ _ _ w h2).mono fun e w' h => ⟨h.1, h.2⟩⟩)
  refine H.mono ?_
  rintro e w' ⟨rfl, hb⟩
  refine ⟨?_, hb⟩
  unfold esc
  congr 2
  split <;> rfl
end Go.Proofs.YtkfkhafmgndgaaaRRDoor.Esc
