/-
  Proved: an argument that can be read as data is read by the print's words: a slice of whole numbers, bools, strings, slices of these. Conditions: none.
-/
import Derived.Test.YtgemoagbefdemaaWWords
import Derived.Deep.Slices
import Derived.Deep.Fields
import Derived.ChangeSame
import Derived.ProofKit
namespace Go.Proofs.Ytgemoagbefdemaa.Read
open Go.ChangeShapes Go.WideShapes Go.RowKit Go.Deep Go.Proofs.YtgemoagbefdemaaW.PrintWords

def Goods {α : Type} (good : α → Prop) (xs : List α) : Prop := ∀ x ∈ xs, good x
/-- What can be read as data of type t is read as a value of the kind d. -/
def Opens {α : Type} (P : Program) (t : TypeId) (d : Kd α) (good : α → Prop) : Prop :=
  ∀ (H : Type) (enc : TypeId × Value → H) (w : World) (base : Nat) (spare : Nat → Bool) (held : Bool) (fuel : Nat) (cs : List Value) (x : DataW H × List MemPlace),
    DataW.trod enc P w base spare held fuel t cs = some x → ∃ a : α, d.K w a cs ∧ good a

theorem opens_int {P : Program} {t : TypeId} {k : IntKind} (ht : P.underlying t = some (.int k)) : Opens P t (Kd.int k) (fun n => (Lit.int k n).wf = true) := by
  intro H enc w base spare held fuel cs x h
  obtain ⟨n, hc, _, hw⟩ := DataW.trod_int ht h
  exact ⟨n, hc, hw⟩
theorem opens_bool {P : Program} {t : TypeId} (ht : P.underlying t = some .bool) : Opens P t Kd.bool (fun _ => True) := by
  intro H enc w base spare held fuel cs x h
  obtain ⟨b, hc, _⟩ := DataW.trod_bool ht h
  exact ⟨b, hc, trivial⟩
theorem opens_string {P : Program} {t : TypeId} (ht : P.underlying t = some .string) : Opens P t Kd.string (fun s => s.size ≤ maxLen) := by
  intro H enc w base spare held fuel cs x h
  obtain ⟨s, hc, _, hw⟩ := DataW.trod_string ht h
  exact ⟨s, hc, hw⟩

theorem choose_list {α : Type} {p : Nat → α → Prop} : ∀ (n : Nat), (∀ i, i < n → ∃ a, p i a) → ∃ l : List α, l.length = n ∧ ∀ i a, l[i]? = some a → p i a := by
  intro n
  induction n with
  | zero => intro _; exact ⟨[], rfl, fun i a h => by simp at h⟩
  | succ n ih =>
    intro h
    obtain ⟨l, hl, hp⟩ := ih (fun i hi => h i (by omega))
    obtain ⟨a, ha⟩ := h n (by omega)
    refine ⟨l ++ [a], by simp [hl], fun i b hb => ?_⟩
    rcases Nat.lt_or_ge i l.length with hi | hi
    · rw [List.getElem?_append_left hi] at hb
      exact hp i b hb
    · rw [List.getElem?_append_right hi] at hb
      have h0 : i - l.length = 0 := by
        rcases Nat.eq_zero_or_pos (i - l.length) with h1 | h1
        · exact h1
        · rw [List.getElem?_eq_none (by simp only [List.length_singleton]; omega)] at hb
          cases hb
      rw [h0] at hb
      simp at hb
      subst hb
      have : i = n := by omega
      subst this
      exact ha

theorem opens_slice {α : Type} {P : Program} {t e : TypeId} {d : Kd α} {good : α → Prop} (ht : P.underlying t = some (.slice e)) (hc : P.cellsOf e = d.sz) (hd : Opens P e d good) :
    Opens P t (Kd.slice e d) (Goods good) := by
  intro H enc w base spare held fuel cs x h
  rcases open_slice ht h with ⟨rfl, _⟩ | ⟨a, len, cap, m, n, D, Pl, rfl, _, hl, hm, hmm, _, hi⟩
  · exact ⟨[], ⟨none, 0, rfl, Nat.le_refl _, rfl, by simp, fun h => absurd h (by simp)⟩, fun x hx => by simp at hx⟩
  · have hlm : len ≤ m := by rw [hmm]; split <;> omega
    obtain ⟨l, hll, hlp⟩ := choose_list (α := α) (p := fun i q => (∃ c : List Value, c.length = d.sz ∧ d.K w q c ∧ ∀ j u, c[j]? = some u → w.cell? (a.add (i * d.sz + j)) = some u) ∧ good q) len (fun i hin => by
      obtain ⟨cs', h1, h2⟩ := hi i (by omega)
      obtain ⟨q, hq, hg⟩ := hd H enc w base spare held n cs' _ h2
      obtain ⟨_, hcl, hat⟩ := World.cells?_some h1
      refine ⟨q, ⟨cs', d.K_len hq, hq, fun j u hj => ?_⟩, hg⟩
      have hjl : j < cs'.length := (List.getElem?_eq_some_iff.1 hj).1
      rw [← Go.Deep.add_add, ← hc, hat j (by omega), ← hj])
    subst hll
    refine ⟨l, ⟨some a, cap, rfl, hl, rfl, by simp only [maxLen] at hm; omega, fun _ => ⟨a, rfl, fun j p hj => (hlp j p hj).1⟩⟩, fun x hx => ?_⟩
    obtain ⟨i, hi', rfl⟩ := List.mem_iff_getElem.1 hx
    exact (hlp i _ (List.getElem?_eq_getElem hi')).2

/-- A struct of fields of one cell: each cell, and its field's own reading. -/
theorem struct_cells {P : Program} {t : TypeId} {fs : Array Field} (hs : P.underlying t = some (.struct fs)) (hone : oneCellFields P fs = true) (hC : P.cellsOf t = fs.size)
    {H : Type} {enc : TypeId × Value → H} {w : World} {base : Nat} {spare : Nat → Bool} {held : Bool} {fuel : Nat} {cs : List Value} {x : DataW H × List MemPlace}
    (h : DataW.trod enc P w base spare held fuel t cs = some x) :
    cs.length = fs.size ∧ ∃ n, ∀ (j : Nat) (f : Field), fs[j]? = some f → ∃ v y, cs[j]? = some v ∧ DataW.trod enc P w base spare held n f.type [v] = some y := by
  obtain ⟨xs, n, _, _, hl, hxl, hf⟩ := DataW.trod_struct hs h
  refine ⟨hl.trans hC, n, fun j f hj => ?_⟩
  have hjl : j < fs.size := (Array.getElem?_eq_some_iff.1 hj).1
  obtain ⟨ho, hk⟩ := hone_of hone j f hj
  have h1 := hf j f hj
  rw [ho, hk] at h1
  have hcl : j < cs.length := by rw [hl, hC]; exact hjl
  have hone' : (cs.drop j).take 1 = [cs[j]] := by
    rw [List.drop_eq_getElem_cons hcl]
    rfl
  rw [hone'] at h1
  exact ⟨cs[j], xs[j]'(by omega), List.getElem?_eq_getElem hcl, h1.trans (List.getElem?_eq_getElem (by omega))⟩

/-- An argument that is a slice. -/
theorem open_arg {α : Type} {P : Program} {t e : TypeId} {d : Kd α} {good : List α → Prop} (ho : Opens P t (Kd.slice e d) good) {H : Type} {enc : TypeId × Value → H} {w : World} {base : Nat} {spare : Nat → Bool} {held : Bool}
    {A : Option Addr} {len cap : Nat} {x : DataW H} {pl : List MemPlace} (h : DataW.Trod enc P w base spare held t (.slice A len cap) x pl) : ∃ l : List α, l.length = len ∧ len ≤ cap ∧ d.C w A len l ∧ good l := by
  obtain ⟨fuel, hf⟩ := h
  obtain ⟨l, ⟨A', c', he, hl, hC⟩, hg⟩ := ho H enc w base spare held fuel _ _ hf
  simp [Value.cells] at he
  obtain ⟨rfl, rfl, rfl⟩ := he
  exact ⟨l, rfl, hl, hC, hg⟩
end Go.Proofs.Ytgemoagbefdemaa.Read
