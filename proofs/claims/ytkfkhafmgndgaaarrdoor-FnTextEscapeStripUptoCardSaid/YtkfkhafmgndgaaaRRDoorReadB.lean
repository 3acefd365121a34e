/-
  Proved: a slice of spec.TxPiece that can be read as data is read by the print's words (set T's), and what it holds is at most the datum's bulk. Conditions: none.
-/
import Derived.Test.YtkfkhafmgndgaaaRRDoorRead
import Derived.Test.YtkfkhafmgndgaaaRRDoorRows
import Derived.Test.YtkfkhafmgndgaaaRRDoorPureT
import Derived.ChangeArms
namespace Go.Proofs.YtkfkhafmgndgaaaRRDoor.ReadB
open Go.ChangeShapes Go.WideShapes Go.RowKit Go.Deep Go.Proofs.YtkfkhafmgndgaaaRRDoorW.PrintWords Go.Proofs.YtkfkhafmgndgaaaRRDoor.GT Go.Proofs.YtkfkhafmgndgaaaRRDoor.Read Go.Proofs.YtkfkhafmgndgaaaRRDoor.PureT
set_option linter.unusedVariables false

theorem one_le {H : Type} (d : DataW H) : 1 ≤ Rows.uptoBulk d := by
  cases d with
  | lit l => cases l <;> simp [Rows.uptoBulk]
  | _ => simp [Rows.uptoBulk]
theorem length_le {H : Type} (l : List (DataW H)) : l.length ≤ Rows.uptoBulkAll l := by
  induction l with
  | nil => simp [Rows.uptoBulkAll]
  | cons x r ih => have := one_le x; simp only [Rows.uptoBulkAll, List.length_cons]; omega
theorem slice_len {t e : TypeId} {H : Type} {enc : TypeId × Value → H} {w : World} {base : Nat} {spare : Nat → Bool} {held : Bool} {fuel : Nat} {A : Option Addr} {len cap : Nat} {x : DataW H × List MemPlace}
    (ht : Tryd.prog.underlying t = some (.slice e)) (h : DataW.trod enc Tryd.prog w base spare held fuel t [.slice A len cap] = some x) : len + 1 ≤ Rows.uptoBulk x.1 := by
  rcases open_slice ht h with ⟨hc, rfl⟩ | ⟨a, len', cap', m, n, D, Pl, hc, _, hl, hm, hmm, rfl, hi⟩
  · simp only [List.cons.injEq, Value.slice.injEq] at hc
    obtain ⟨⟨_, rfl, _⟩, _⟩ := hc
    simp [Rows.uptoBulk]
  · simp only [List.cons.injEq, Value.slice.injEq] at hc
    obtain ⟨⟨_, rfl, _⟩, _⟩ := hc
    have := length_le ((List.range len).map D)
    rw [List.length_map, List.length_range] at this
    simp only [Rows.uptoBulk]
    omega
theorem i64_wf (c : Int) (h : (Lit.int .i64 c).wf = true) : Color.I64 c := by
  simp only [Lit.wf, Bool.and_eq_true, decide_eq_true_eq] at h
  have h1 : IntKind.i64.min = -9223372036854775808 := by decide
  have h2 : IntKind.i64.max = 9223372036854775807 := by decide
  unfold Color.I64
  omega
theorem two {α : Type} (l : List α) (h : l.length = 2) : ∃ a b, l = [a, b] := by
  match l, h with
  | [a, b], _ => exact ⟨a, b, rfl⟩
theorem open46B {H : Type} {enc : TypeId × Value → H} {w : World} {base : Nat} {spare : Nat → Bool} {held : Bool} {fuel : Nat} {cs : List Value} {x : DataW H × List MemPlace}
    (h : DataW.trod enc Tryd.prog w base spare held fuel 46 cs = some x) : ∃ a : S46, k46.K w a cs ∧ (∀ c ∈ a.f0, Color.I64 c) ∧ a.f0.length + a.f1.size + 1 ≤ Rows.uptoBulk x.1 := by
  obtain ⟨xs, n, rfl, rfl, hl, hxl, hf⟩ := DataW.trod_struct Tryd.underlying46 h
  obtain ⟨c0, c1, rfl⟩ := two cs (hl.trans (by kernel_rfl))
  have hxl2 : xs.length = 2 := hxl
  obtain ⟨x0, x1, rfl⟩ := two xs hxl2
  have h0 := hf 0 _ rfl
  have h1 := hf 1 _ rfl
  clear hf hxl
  have t0 : DataW.trod enc Tryd.prog w base spare held n 25 [c0] = some x0 := by
    have e : Tryd.prog.cellsOf 25 = 1 := by kernel_rfl
    simpa [e] using h0
  have t1 : DataW.trod enc Tryd.prog w base spare held n 9 [c1] = some x1 := by
    have e : Tryd.prog.cellsOf 9 = 1 := by kernel_rfl
    simpa [e] using h1
  obtain ⟨a, ⟨A0, k0, e0, hle, hC⟩, ga⟩ := (opens_slice (P := Tryd.prog) (d := Kd.int .i64) Tryd.underlying25 (by kernel_rfl) (opens_int Tryd.underlying3)) H enc w base spare held n _ _ t0
  obtain ⟨s, e1, rfl, _⟩ := DataW.trod_string Tryd.underlying9 t1
  cases e0; cases e1
  have hb := slice_len Tryd.underlying25 t0
  refine ⟨⟨a, s⟩, k46_mk w ⟨a, s⟩ hle hC, fun c hc => i64_wf c (ga c hc), ?_⟩
  simp only [List.map_cons, List.map_nil, Rows.uptoBulk, Rows.uptoBulkAll]
  have : s.data.toList.length = s.size := by rw [Array.length_toList]; rfl
  omega
theorem ms_bulk {H : Type} (l : List S46) : ∀ (D : Nat → DataW H), (∀ i q, l[i]? = some q → q.f0.length + q.f1.size + 1 ≤ Rows.uptoBulk (D i)) → ms l ≤ Rows.uptoBulkAll ((List.range l.length).map D) := by
  induction l with
  | nil => intro D _; exact Nat.zero_le _
  | cons p l ih =>
    intro D h
    have h0 := h 0 p rfl
    have h1 := ih (fun i => D (i + 1)) (fun i q hq => h (i + 1) q (by simpa using hq))
    rw [List.length_cons, List.range_succ_eq_map, List.map_cons, List.map_map, ms]
    simp only [Rows.uptoBulkAll]
    have e : (List.map (D ∘ Nat.succ) (List.range l.length)) = (List.map (fun i => D (i + 1)) (List.range l.length)) := rfl
    rw [e]
    omega
theorem open_pieces {H : Type} {enc : TypeId × Value → H} {w : World} {base : Nat} {spare : Nat → Bool} {held : Bool} {A : Option Addr} {len cap : Nat} {x : DataW H} {pl : List MemPlace}
    (h : DataW.Trod enc Tryd.prog w base spare held 27 (.slice A len cap) x pl) : ∃ l : List S46, l.length = len ∧ len ≤ cap ∧ k46.C w A len l ∧ (∀ p ∈ l, ∀ c ∈ p.f0, Color.I64 c) ∧ ms l ≤ Rows.uptoBulk x := by
  obtain ⟨fuel, hf⟩ := h
  have hf' : DataW.trod enc Tryd.prog w base spare held fuel 27 [.slice A len cap] = some (x, pl) := by simpa [Value.cells] using hf
  rcases open_slice Tryd.underlying27 hf' with ⟨hc, hx⟩ | ⟨a, len', cap', m, n, D, Pl, hc, _, hl, hm, hmm, hx, hi⟩
  · simp only [List.cons.injEq, Value.slice.injEq] at hc
    obtain ⟨⟨rfl, rfl, rfl⟩, _⟩ := hc
    exact ⟨[], rfl, Nat.le_refl _, ⟨rfl, by simp, fun h => absurd h (by simp)⟩, fun p hp => by simp at hp, Nat.zero_le _⟩
  · simp only [List.cons.injEq, Value.slice.injEq] at hc
    obtain ⟨⟨rfl, rfl, rfl⟩, _⟩ := hc
    have hlm : len ≤ m := by rw [hmm]; split <;> omega
    have hsz : Tryd.prog.cellsOf 46 = k46.sz := by kernel_rfl
    obtain ⟨l, hll, hlp⟩ := choose_list (α := S46) (p := fun i q => (∃ c : List Value, c.length = k46.sz ∧ k46.K w q c ∧ ∀ j u, c[j]? = some u → w.cell? (a.add (i * k46.sz + j)) = some u) ∧ (∀ c ∈ q.f0, Color.I64 c) ∧ q.f0.length + q.f1.size + 1 ≤ Rows.uptoBulk (D i)) len (fun i hin => by
      obtain ⟨cs', h1, h2⟩ := hi i (by omega)
      obtain ⟨q, hq, hg, hb⟩ := open46B h2
      obtain ⟨_, hcl, hat⟩ := World.cells?_some h1
      refine ⟨q, ⟨cs', k46.K_len hq, hq, fun j u hj => ?_⟩, hg, hb⟩
      have hjl : j < cs'.length := (List.getElem?_eq_some_iff.1 hj).1
      rw [← Go.Deep.add_add, ← hsz, hat j (by omega), ← hj])
    subst hll
    refine ⟨l, rfl, hl, ⟨rfl, by simp only [maxLen] at hm; omega, fun _ => ⟨a, rfl, fun j p hj => (hlp j p hj).1⟩⟩, fun p hp => ?_, ?_⟩
    · obtain ⟨i, hi', rfl⟩ := List.mem_iff_getElem.1 hp
      exact (hlp i _ (List.getElem?_eq_getElem hi')).2.1
    · have hx1 : x = .slice ((List.range l.length).map D) ((List.range (m - l.length)).map fun j => D (l.length + j)) := congrArg Prod.fst hx
      have := ms_bulk l D (fun i q hq => (hlp i q hq).2.2)
      rw [hx1]
      simp only [Rows.uptoBulk]
      omega
end Go.Proofs.YtkfkhafmgndgaaaRRDoor.ReadB
