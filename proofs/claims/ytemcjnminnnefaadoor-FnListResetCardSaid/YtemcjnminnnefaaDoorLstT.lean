/-
  Proved: what zzReplaceAll, zzContains, zzSplit, zzText and text.ProcessCRLF return for texts without tabs and line ends. Conditions: at most 1000 bytes.
-/
import Derived.Test.YtemcjnminnnefaaDoorGELx
import Derived.Test.YtemcjnminnnefaaDoorCommon
import Derived.Test.YtemcjnminnnefaaDoorBld
import Derived.Test.YtemcjnminnnefaaDoorShelf
import Derived.Test.YtemcjnminnnefaaDoorWMore
import Derived.WalkKit
import Derived.BigCall
import Derived.Laws.IdiomStrings
import Derived.Laws.Cover4
namespace Go.Proofs.YtemcjnminnnefaaDoor.LstT
open Go.RowKit Go.Proofs.YtemcjnminnnefaaDoorW.PrintWords Go.Proofs.YtemcjnminnnefaaDoor.Common Go.Proofs.YtemcjnminnnefaaDoor.GEL
set_option linter.unusedVariables false
set_option linter.unusedSimpArgs false
set_option maxRecDepth 1000000

/-- a text without tabs, line feeds, carriage returns -/
def good (s : ByteArray) : Prop := s.size ≤ 1000 ∧ ∀ c ∈ s.data.toList, c ≠ 9 ∧ c ≠ 10 ∧ c ≠ 13
theorem find_none (c : UInt8) (t : List UInt8) (l : List UInt8) (h : ∀ d ∈ l, d ≠ c) : findSub (c :: t) l = none := by
  induction l with
  | nil => unfold findSub; rw [if_neg (by simp)]
  | cons d u ih =>
    unfold findSub
    rw [if_neg, ih (fun x hx => h x (by simp [hx]))]
    · rfl
    · intro hp
      have := List.isPrefixOf_iff_prefix.1 hp
      rw [List.cons_prefix_cons] at this
      exact h d (by simp) this.1.symm
theorem index_l (s sub : ByteArray) (hs : s.size ≤ 4611686018427387904) (hb : sub.size ≤ 2305843009213693952) : Ev (fun k => list_zzIndex.f k s sub) (idxOf sub.data.toList s.data.toList) :=
  index_ev list_zzIndex.l0 (fun k x0 x1 x5 => by simp only [list_zzIndex.l0]) s sub hs hb
theorem index_t (s sub : ByteArray) (hs : s.size ≤ 4611686018427387904) (hb : sub.size ≤ 2305843009213693952) : Ev (fun k => text_zzIndex.f k s sub) (idxOf sub.data.toList s.data.toList) :=
  index_ev text_zzIndex.l0 (fun k x0 x1 x5 => by simp only [text_zzIndex.l0]) s sub hs hb
theorem repl_same (c : UInt8) (t new : List UInt8) (n : Nat) (l : List UInt8) (h : ∀ d ∈ l, d ≠ c) : replL (c :: t) new n l = l := by
  cases n with
  | zero => rfl
  | succ n => rw [replL, find_none c t l h]
theorem replL_c (s new : ByteArray) (hs : s.size ≤ 1000) (hn : new.size ≤ 1000) (c : UInt8) (h : ∀ d ∈ s.data.toList, d ≠ c) (W : World) :
    Calls Tryd.prog 37 #[.string s, .string ⟨#[c]⟩, .string new] W fun e w' => e = .returned (.string s) ∧ Below W.heap.size W w' := by
  have hmul : s.size * (new.size + 1) < 140737488355328 := Nat.lt_of_le_of_lt (Nat.mul_le_mul hs (show new.size + 1 ≤ 1001 by omega)) (by decide)
  obtain ⟨k, hk⟩ := repl_ev list_zzIndex.f list_zzReplaceAll.l1 index_l (fun k x0 x1 x2 x7 => by rw [list_zzReplaceAll.l1]) list_zzReplaceAll.f (fun k a0 a1 a2 h => by rw [list_zzReplaceAll.f, if_neg h]) s ⟨#[c]⟩ new (by show 0 < 1; omega) (by show 1 ≤ _; omega) (by omega) hmul
  rw [show (⟨#[c]⟩ : ByteArray).data.toList = [c] from rfl, repl_same c [] _ _ _ h, ofL_of] at hk
  exact list_zzReplaceAll.calls k s _ new s W (hk k (Nat.le_refl _))
theorem crlf_c (s : ByteArray) (hs : good s) (W : World) : Calls Tryd.prog 44 #[.string s] W fun e w' => e = .returned (.string s) ∧ Below W.heap.size W w' := by
  have H1 : ∀ W, Aside0 (Calls Tryd.prog 58 #[.string s, .string ⟨#[13, 10]⟩, .string ⟨#[10]⟩] W fun e w' => e = .returned (.string s) ∧ Below W.heap.size W w') := fun W => by
    have h1 := hs.1
    obtain ⟨k, hk⟩ := repl_ev text_zzIndex.f text_zzReplaceAll.l1 index_t (fun k x0 x1 x2 x7 => by rw [text_zzReplaceAll.l1]) text_zzReplaceAll.f (fun k a0 a1 a2 h => by rw [text_zzReplaceAll.f, if_neg h]) s ⟨#[13, 10]⟩ ⟨#[10]⟩ (by show 0 < 2; omega) (by show 2 ≤ _; omega) (by omega) (by show s.size * (1 + 1) < _; omega)
    rw [show (⟨#[13, 10]⟩ : ByteArray).data.toList = [13, 10] from rfl, repl_same 13 [10] _ _ _ (fun d hd => (hs.2 d hd).2.2), ofL_of] at hk
    exact Aside0.mk (text_zzReplaceAll.calls k s _ _ s W (hk k (Nat.le_refl _)))
  have H2 : ∀ W, Aside0 (Calls Tryd.prog 59 #[.string s, .string ⟨#[13]⟩] W fun e w' => e = .returned (.bool false) ∧ Drawn0 W w') := fun W => by
    have h1 := hs.1
    obtain ⟨k, hk⟩ := index_t s ⟨#[13]⟩ (by omega) (by show 1 ≤ _; omega)
    have hf : text_zzContains.f k s ⟨#[13]⟩ = some false := by
      have h2 : text_zzIndex.f k s ⟨#[13]⟩ = some (-1) := by
        refine (hk k (Nat.le_refl _)).trans ?_
        rw [show (⟨#[13]⟩ : ByteArray).data.toList = [13] from rfl]
        unfold idxOf
        rw [find_none 13 [] _ (fun d hd => (hs.2 d hd).2.2)]
      rw [text_zzContains.f, h2]
      rfl
    exact Aside0.mk (text_zzContains.calls k s _ false W hf)
  go_enter Tryd.func44, Tryd.ntmps44
  go_wp2_with (first
    | (go_at_call 58; refine (H1 _).out.mono ?_; rintro e w1 ⟨rfl, hb⟩; have HB1 := Aside0.mk hb; clear hb)
    | (go_at_call 59; refine (H2 _).out.mono ?_; rintro e w2 ⟨rfl, hd⟩; have HD2 := Aside0.mk hd; clear hd))
  go_ret
  obtain ⟨n, rfl⟩ := HD2.out
  exact ⟨rfl, pw_below_drewN HB1.out n⟩
theorem text_c (s : ByteArray) (W : World) : Calls Tryd.prog 43 #[.iface 9 (.string s)] W fun e w' => e = .returned (.string s) ∧ w' = W := by
  have hta : ∀ w, (Instr.typeAssert (.iface 9 (.string s)) 20 9 true).run Tryd.prog w = .ok (.tuple #[.string s, .bool true]) w := fun _ => by kernel_rfl
  go_enter Tryd.func43, Tryd.ntmps43
  go_wp2
  go_ret
  exact ⟨rfl, rfl⟩
/-- a text without line feeds, as zzContains and zzSplit see it -/
theorem has_c (s : ByteArray) (hs : good s) (W : World) : Calls Tryd.prog 36 #[.string s, .string ⟨#[10]⟩] W fun e w' => e = .returned (.bool false) ∧ Drawn0 W w' := by
  have h1 := hs.1
  obtain ⟨k, hk⟩ := index_l s ⟨#[10]⟩ (by omega) (by show 1 ≤ _; omega)
  have hf : list_zzContains.f k s ⟨#[10]⟩ = some false := by
    have h2 : list_zzIndex.f k s ⟨#[10]⟩ = some (-1) := by
      refine (hk k (Nat.le_refl _)).trans ?_
      rw [show (⟨#[10]⟩ : ByteArray).data.toList = [10] from rfl]
      unfold idxOf
      rw [find_none 10 [] _ (fun d hd => (hs.2 d hd).2.1)]
    rw [list_zzContains.f, h2]
    rfl
  exact list_zzContains.calls k s _ false W hf
theorem split_c (s : ByteArray) (hs : good s) (W : World) : Calls Tryd.prog 38 #[.string s, .string ⟨#[10]⟩] W fun e w' => ∃ v : Value, e = .returned v ∧ Kd.R Kd.string 9 w' W.heap.size (fun _ => True) v [s] ∧ Below W.heap.size W w' := by
  have h1 := hs.1
  obtain ⟨k, hk⟩ := split_loop list_zzIndex.f list_zzSplit.l1 index_l (fun k x0 x1 x5 => by rw [list_zzSplit.l1]) ⟨#[10]⟩ (by show 0 < 1; omega) (by show 1 ≤ _; omega) s.size s [] (Nat.le_refl _) (by omega) (by simp; omega)
  have e : splitL (⟨#[10]⟩ : ByteArray).data.toList s.size s.data.toList = [s.data.toList] := by
    rw [show (⟨#[10]⟩ : ByteArray).data.toList = [10] from rfl]
    cases s.size with
    | zero => rfl
    | succ n => rw [splitL, find_none 10 [] _ (fun d hd => (hs.2 d hd).2.1)]
  rw [e, List.nil_append, List.map_singleton, ofL_of] at hk
  exact list_zzSplit.calls k s _ [s] W (by rw [list_zzSplit.f, if_neg (by show ¬ ((1 : Nat) : Int) = 0; omega)]; exact hk k (Nat.le_refl _))
end Go.Proofs.YtemcjnminnnefaaDoor.LstT
