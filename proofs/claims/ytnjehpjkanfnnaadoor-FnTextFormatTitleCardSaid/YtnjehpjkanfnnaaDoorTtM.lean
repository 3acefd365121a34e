/-
  Proved: strings.Map with a closure that keeps the character ahead in a variable of its own: what it returns, as a plain function over the text's characters. Conditions: every character valid and good; what the closure is asked for stands in Clo.
-/
import Derived.Test.YtnjehpjkanfnnaaDoorShelf
import Derived.WalkKit
import Derived.BigCall
import Derived.BigQuiet
import Derived.Below
import Derived.Lib.OthersKept
import Derived.Lib.MapLaws
import Derived.Lib.RuneBytes
import Derived.Laws.Runes
import Derived.Laws.DeepStrings4
import Derived.Deep.LoopGhost
import Derived.Deep.DeepCutAuto
import Derived.Deep.DeepFit
import Derived.Deep.DeepMust
namespace Go.Proofs.YtnjehpjkanfnnaaDoor.TtM
open Go Go.RowKit
set_option linter.unusedVariables false
set_option linter.unusedSimpArgs false

/-- a text's characters, all of them valid -/
inductive RsOf : List UInt8 → List Nat → Prop
  | nil : RsOf [] []
  | cons (l : List UInt8) (rs : List Nat) (hne : l ≠ []) (h : RsOf (l.drop (Lib.decodeL l).2) rs) (hv : (Lib.decodeL l).1 ≠ 65533) : RsOf l ((Lib.decodeL l).1 :: rs)
def mapR (g : Int → Nat → Int) : Int → List Nat → List UInt8
  | _, [] => []
  | p, r :: rs => Lib.encodeRune (g p r) ++ mapR g r rs
/-- the closure's two variables -/
structure Vars (B bi bp : Nat) (w0 : World) (p : Int) (W : World) : Prop where
  ci : W.heap[bi]? = some (.cells #[.bool false] 4 (0, 0))
  cp : W.heap[bp]? = some (.cells #[.int .i32 p] 21 (0, 0))
  bel : Below B w0 W
def Clo (bi bp : Nat) (Q : Int → Prop) (g : Int → Nat → Int) : Prop :=
  ∀ (W : World) (p : Int) (x : Nat), Q p → Q (x : Int) → W.heap[bi]? = some (.cells #[.bool false] 4 (0, 0)) → W.heap[bp]? = some (.cells #[.int .i32 p] 21 (0, 0)) →
    Calls Tryd.prog 26 #[.int .i32 (x : Int), .pointer (some ⟨bi, 0, none⟩), .pointer (some ⟨bp, 0, none⟩)] W fun e w' => e = .returned (.int .i32 (g p x)) ∧ W.grownBy w' (some bp) ∧ w'.heap[bp]? = some (.cells #[.int .i32 (x : Int)] 21 (0, 0))
variable {B bi bp : Nat} {w0 W W' : World} {p q : Int}
theorem Vars.on (h : Vars B bi bp w0 p W) {m : Nat} (hb : Below m W W') (hB : B ≤ m) (h1 : bi < m) (h2 : bp < m) : Vars B bi bp w0 p W' :=
  ⟨(hb.block _ h1).trans h.ci, (hb.block _ h2).trans h.cp, h.bel.trans (hb.mono hB)⟩
theorem Vars.call (h : Vars B bi bp w0 p W) (hg : W.grownBy W' (some bp)) (hc : W'.heap[bp]? = some (.cells #[.int .i32 q] 21 (0, 0))) (hi : B ≤ bi) (hp : B ≤ bp) (hne : bi ≠ bp) : Vars B bi bp w0 q W' :=
  ⟨(hg.block bi (Array.getElem?_eq_some_iff.1 h.ci).1 (fun e => hne (Option.some.inj e))).trans h.ci, hc, h.bel.grown hg (Nat.le_of_lt (Nat.lt_of_le_of_lt hp (Array.getElem?_eq_some_iff.1 h.cp).1)) (fun k hk => by cases hk; exact hp)⟩
/-- a builder above what is written -/
theorem isb_grown {T e : TypeId} {A b k : Nat} {bs : List Value} (h : Lib.IsBuilderF T e A b bs W) (hg : W.grownBy W' (some k)) (hk : k < A) : Lib.IsBuilderF T e A b bs W' := by
  have at_ : ∀ p : Value, Lib.BuilderAtF T e A b p bs W → Lib.BuilderAtF T e A b p bs W' := fun p h => by
    have hlt := h.lt
    obtain ⟨hB, v, hv, hown, hne⟩ := h
    refine ⟨hB, v, (hg.block b hlt (fun e => by cases e; omega)).trans hv, hown.kept hg ?_, hne⟩
    cases hv2 : v.ownBlock with
    | none => exact Or.inl rfl
    | some j => exact Or.inr (fun e => by cases e; have := (hown.lt _ hv2).1; omega)
  exact h.elim (fun x => .inl (at_ _ x)) (fun x => .inr (at_ _ x))
theorem enc_pos (M : Int) : 1 ≤ (Lib.encodeRune M).length := by
  unfold Lib.encodeRune Lib.encodeRuneZ
  rw [List.length_map]
  repeat' split
  all_goals simp
theorem enc_four (M : Int) : (Lib.encodeRune M).length ≤ 4 := by
  unfold Lib.encodeRune Lib.encodeRuneZ
  rw [List.length_map]
  repeat' split
  all_goals simp
theorem rs_ne {l : List UInt8} {r : Nat} {rs : List Nat} (h : RsOf l (r :: rs)) : l ≠ [] ∧ r = (Lib.decodeL l).1 ∧ RsOf (l.drop (Lib.decodeL l).2) rs ∧ r ≠ 65533 := by
  cases h with
  | cons l rs hne h hv => exact ⟨hne, rfl, h, hv⟩
theorem rs_nil {l : List UInt8} (h : RsOf l []) : l = [] := by
  cases h
  rfl
end Go.Proofs.YtnjehpjkanfnnaaDoor.TtM
