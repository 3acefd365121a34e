/-
  Proved: what impl.sliced returns at each of its six calls. Conditions: rows as said, of at most 2^32 elements.
-/
import Derived.Test.YtapbnbinoakbhaaSlcM
namespace Go.Proofs.Ytapbnbinoakbhaa.SlcS
open Go.RowKit Go.Proofs.YtapbnbinoakbhaaW.PrintWords Go.Proofs.Ytapbnbinoakbhaa.Common Go.Proofs.Ytapbnbinoakbhaa.SlcQ Go.Proofs.Ytapbnbinoakbhaa.SlcA Go.Proofs.Ytapbnbinoakbhaa.SlcM
set_option linter.unusedVariables false
set_option linter.unusedSimpArgs false
set_option maxRecDepth 1000000

def sl (xs : List Int) (d n : Int) (vals : List Int) : List Int := if d = 0 then xs ++ vals else if d = 1 then vals ++ xs else if d = 3 then keepIn vals xs else if d = 4 then plusN n xs else xs
def opV (d n : Int) (A2 : Option Addr) (c2 m : Nat) : Array Value := #[.int .i64 d, .int .i64 n, .slice A2 m c2]
/-- the world behind the box -/
theorem boxed (base : Nat) (w0 W : World) (A : Option Addr) (c : Nat) (xs : List Int) (X : Array Value) (A2 : Option Addr) (c2 : Nat) (vals : List Int) (HO : Own W base (.slice A xs.length c) xs) (HB : Below base w0 W) (hb : base ≤ W.heap.size) (HV : CI W A2 vals) :
    Own (W.alloc (.cells X 53)) base (.slice A xs.length c) xs ∧ CI (W.alloc (.cells X 53)) A xs ∧ xs.length ≤ c ∧ CI (W.alloc (.cells X 53)) A2 vals ∧ Below base w0 (W.alloc (.cells X 53)) ∧ base ≤ (W.alloc (.cells X 53)).heap.size ∧ ∀ j, (W.alloc (.cells X 53)).cell? ⟨W.heap.size, j, none⟩ = X[j]? := by
  have hbl : Below W.heap.size W (W.alloc (.cells X 53)) := below_alloc (Below.refl _ _) _
  have h2 := pw_own_below HO hbl
  obtain ⟨A', c', e, hc, hci⟩ := Own.slice h2
  injection e with e1 e2 e3
  subst e1
  subst e3
  exact ⟨h2, hci, hc, Kd.C_below HV hbl, HB.trans (hbl.mono hb), Nat.le_trans hb hbl.size, fun j => cell_of_row _ _ _ _ _ _ (heap_alloc_new W _)⟩
theorem step_below {base : Nat} {w0 W w' : World} (h : Below base w0 W) (hb : base ≤ W.heap.size) (h2 : Below W.heap.size W w') : Below base w0 w' := h.trans (h2.mono hb)
theorem ne_of_lt_ {v : Value} {m g : Nat} (h : ∀ k, v.ownBlock = some k → k < m) (hg : m ≤ g) : v.ownBlock = none ∨ v.ownBlock ≠ some g := by
  cases hv : v.ownBlock with
  | none => exact .inl rfl
  | some k => exact .inr (fun e => by injection e with e; have := h k hv; omega)
theorem ci_other {W W1 : World} {base g A : _} {c : Nat} {xs : List Int} (h : Own W base (.slice A xs.length c) xs) {r : Option Nat} (hg : W.grownBy W1 r) (hr : r = some g) (hlt : ∀ k, (Value.slice A xs.length c).ownBlock = some k → k < g) : CI W1 A xs := by
  subst hr
  obtain ⟨A', c', e, _, hci⟩ := Own.slice (own_other h hg (ne_of_lt_ hlt (Nat.le_refl _)))
  injection e with e1
  subst e1
  exact hci
abbrev BXP (base : Nat) (w0 W : World) (A : Option Addr) (c : Nat) (xs : List Int) (X : Array Value) (A2 : Option Addr) (vals : List Int) : Prop :=
  Own (W.alloc (.cells X 53)) base (.slice A xs.length c) xs ∧ CI (W.alloc (.cells X 53)) A xs ∧ xs.length ≤ c ∧ CI (W.alloc (.cells X 53)) A2 vals ∧ Below base w0 (W.alloc (.cells X 53)) ∧ base ≤ (W.alloc (.cells X 53)).heap.size ∧ ∀ j, (W.alloc (.cells X 53)).cell? ⟨W.heap.size, j, none⟩ = X[j]?
set_option maxHeartbeats 2000000 in
theorem sliced1_c (base : Nat) (w0 W : World) (A : Option Addr) (c : Nat) (xs : List Int) (n : Int) (A2 : Option Addr) (c2 : Nat) (vals : List Int) (HO : Own W base (.slice A xs.length c) xs)
    (BX : BXP base w0 W A c xs #[.int .i64 1, .int .i64 n, .slice A2 vals.length c2] A2 vals) (hb : base ≤ W.heap.size) (hvc : vals.length ≤ c2) (hl : xs.length ≤ 4294967296) (hvl : vals.length ≤ 4294967296) :
    Calls Try.prog 43 #[.slice A xs.length c, .agg #[.int .i64 1, .int .i64 n, .slice A2 vals.length c2]] W fun e w' => ∃ v1, e = .returned v1 ∧ Own w' base v1 (vals ++ xs) ∧ Below base w0 w' := by
  have HBX := Aside0.mk BX
  have HLT := Aside0.mk (own_lt HO)
  obtain ⟨W2, hW2⟩ : ∃ W2, W2 = W.alloc (.cells #[.int .i64 1, .int .i64 n, .slice A2 vals.length c2] 53) := ⟨_, rfl⟩
  have hs2 : W2.heap.size = W.heap.size + 1 := by rw [hW2, World.size_alloc]
  have HL : Aside0 (Own (W2.alloc (.cells #[] 3)) base (.slice (some ⟨W.heap.size + 1, 0, none⟩) 0 0) []) := ⟨by
    have := own_lit W2 base 3 .i64 [] (by omega) (by simp)
    rw [hs2] at this
    exact this⟩
  have H3 : Aside0 (Own (W2.alloc (.cells #[] 3)) base (.slice A xs.length c) xs ∧ CI (W2.alloc (.cells #[] 3)) A2 vals ∧ Below base w0 (W2.alloc (.cells #[] 3)) ∧ base ≤ (W2.alloc (.cells #[] 3)).heap.size) := ⟨by
    have h := HBX.out
    unfold BXP at h
    rw [← hW2] at h
    exact ⟨pw_own_below h.1 (below_alloc (Below.refl _ _) _), Kd.C_alloc h.2.2.2.1 _, h.2.2.2.2.1.alloc h.2.2.2.2.2.1 _, by rw [World.size_alloc]; omega⟩⟩
  rw [hW2] at HL H3
  have HS2 := Aside0.mk hs2
  clear BX HO hW2 hs2
  go_enter Try.func43, Try.ntmps43
  go_wp2_with (first
    | ((with_reducible refine gate_builtin (b := .append) (xs := #[.tmp 17, .tmp 19]) rfl ?_); at_builtin; refine append_row2 (w0 := w0) base rfl (.tmp 17) (.tmp 19) 29 29 3 .i64 8 rfl Try.underlying29 Try.underlying29 info3 (by decide) (.slice (some ⟨W.heap.size + 1, 0, none⟩) 0 0) [] vals A2 vals.length c2 rfl rfl HL.out H3.out.2.1 H3.out.2.2.1 H3.out.2.2.2 (by simp; omega) ?_; intro v1 w1 ho hbl hg hat; have HO1 := Aside0.mk ho; have HB1 := Aside0.mk hbl; have HG1 := Aside0.mk hg; clear ho hbl hg hat)
    | (go_at_call 67; refine (prepend_c base w0 w1 v1 vals xs A c HO1.out (ci_other H3.out.1 HG1.out rfl (fun k hk => Nat.lt_succ_of_lt (HLT.out k hk))) HB1.out (Nat.le_trans H3.out.2.2.2 HG1.out.size) (by omega)).mono ?_; rintro e w2 ⟨v2, rfl, ho, hbb, -, -⟩; have HO2 := Aside0.mk (And.intro ho hbb); clear ho hbb))
  go_ret
  exact ⟨_, rfl, HO2.out.1, HO2.out.2⟩
set_option maxHeartbeats 2000000 in
theorem sliced5_c (base : Nat) (w0 W : World) (A : Option Addr) (c : Nat) (xs : List Int) (n : Int) (A2 : Option Addr) (c2 : Nat) (vals : List Int) (HO : Own W base (.slice A xs.length c) xs)
    (BX : BXP base w0 W A c xs #[.int .i64 5, .int .i64 n, .slice A2 vals.length c2] A2 vals) (hb : base ≤ W.heap.size) (hc : xs.length ≤ c) (hvc : vals.length ≤ c2) (hl : xs.length ≤ 4294967296) (hvl : vals.length ≤ 4294967296) :
    Calls Try.prog 43 #[.slice A xs.length c, .agg #[.int .i64 5, .int .i64 n, .slice A2 vals.length c2]] W fun e w' => ∃ v1, e = .returned v1 ∧ Own w' base v1 xs ∧ Below base w0 w' := by
  have HBX := Aside0.mk BX
  have HLT := Aside0.mk (own_lt HO)
  have C := Aside0.mk (clone_c A c xs _ BX.2.1 hc hl)
  clear BX HO
  by_cases h0 : xs.length = 0
  · obtain rfl := List.eq_nil_of_length_eq_zero h0
    clear h0
    simp only [List.length_nil] at C HBX HLT hl hc ⊢
    go_enter Try.func43, Try.ntmps43
    go_wp2_with (go_at_call 68; refine C.out.mono ?_; rintro e w1 ⟨v1, rfl, ho, hbb⟩; obtain ⟨A1, c1, rfl, hc1, hci1⟩ := Own.slice ho; have HO1 := Aside0.mk hbb; clear ho hbb hci1)
    all_goals go_ret
    all_goals exact ⟨_, rfl, pw_own_below HBX.out.1 HO1.out, step_below HBX.out.2.2.2.2.1 HBX.out.2.2.2.2.2.1 HO1.out⟩
  · have hn0 : (0 : Int) < xs.length := by omega
    clear h0
    go_enter Try.func43, Try.ntmps43
    go_wp2_with (go_at_call 68; refine C.out.mono ?_; rintro e w1 ⟨v1, rfl, ho, hbb⟩; obtain ⟨g, cap, rfl, hgb, hgl⟩ := ho.form (by omega); have hat := own_at ho 0 (by omega) (by omega); obtain ⟨hcell, hfr⟩ := hat; simp only [Int.toNat_zero] at hcell hfr; have hn1 := pw_cell_below hbb (HBX.out.2.2.2.2.2.2 1); have HO1 := Aside0.mk hbb; have HS1 := Aside0.mk (own_store ho 0 n).2; have HGB := Aside0.mk hgb; clear ho hbb hgb hgl)
    go_ret
    refine ⟨_, rfl, own_other (pw_own_below HBX.out.1 HO1.out) HS1.out (ne_of_lt_ (fun k hk => HLT.out k hk) (by have h := HGB.out; rw [World.size_alloc] at h; omega)), ?_⟩
    exact (step_below HBX.out.2.2.2.2.1 HBX.out.2.2.2.2.2.1 HO1.out).grown HS1.out (Nat.le_trans HBX.out.2.2.2.2.2.1 HO1.out.size) (fun k hk => by injection hk with hk; subst hk; exact Nat.le_trans HBX.out.2.2.2.2.2.1 HGB.out)
set_option maxHeartbeats 4000000 in
theorem sliced_c (base : Nat) (w0 W : World) (v : Value) (xs : List Int) (d n : Int) (A2 : Option Addr) (c2 : Nat) (vals : List Int) (HO : Own W base v xs) (HB : Below base w0 W) (hb : base ≤ W.heap.size) (HV : CI W A2 vals) (hvc : vals.length ≤ c2)
    (hl : xs.length ≤ 4294967296) (hvl : vals.length ≤ 4294967296) (hd : d = 0 ∨ d = 1 ∨ d = 2 ∨ d = 3 ∨ d = 4 ∨ d = 5) :
    Calls Try.prog 43 #[v, .agg #[.int .i64 d, .int .i64 n, .slice A2 vals.length c2]] W fun e w' => ∃ v1, e = .returned v1 ∧ Own w' base v1 (sl xs d n vals) ∧ Below base w0 w' := by
  obtain ⟨A, c, rfl, hc, -⟩ := HO.slice
  have BX := boxed base w0 W A c xs #[.int .i64 d, .int .i64 n, .slice A2 vals.length c2] A2 c2 vals HO HB hb HV
  have HBX := Aside0.mk BX
  have HOA := Aside0.mk HO
  obtain ⟨-, -, -, -, -, -, -⟩ := BX
  clear HO HB HV
  rcases hd with rfl | rfl | rfl | rfl | rfl | rfl
  · have C := Aside0.mk (append_c base w0 _ _ xs vals A2 c2 HBX.out.1 HBX.out.2.2.2.1 HBX.out.2.2.2.2.1 HBX.out.2.2.2.2.2.1 (by omega))
    go_enter Try.func43, Try.ntmps43
    go_wp2_with (go_at_call 66; refine C.out.mono ?_; rintro e w1 ⟨v1, rfl, ho, hbb, -, -⟩; have HO1 := Aside0.mk (And.intro ho hbb); clear ho hbb)
    go_ret
    exact ⟨_, rfl, HO1.out.1, HO1.out.2⟩
  · exact sliced1_c base w0 W A c xs n A2 c2 vals HOA.out HBX.out hb hvc hl hvl
  · have C := Aside0.mk (clone_c A c xs _ HBX.out.2.1 hc hl)
    go_enter Try.func43, Try.ntmps43
    go_wp2_with (go_at_call 68; refine C.out.mono ?_; rintro e w1 ⟨v1, rfl, ho, hbb⟩; have HO1 := Aside0.mk (And.intro ho hbb); clear ho hbb)
    go_ret
    exact ⟨_, rfl, own_weaken HO1.out.1 HBX.out.2.2.2.2.2.1, step_below HBX.out.2.2.2.2.1 HBX.out.2.2.2.2.2.1 HO1.out.2⟩
  · have C := Aside0.mk (filter_c A c xs W.heap.size A2 c2 vals _ HBX.out.2.1 hc hl (HBX.out.2.2.2.2.2.2 2) HBX.out.2.2.2.1 hvc hvl)
    go_enter Try.func43, Try.ntmps43
    go_wp2_with (go_at_call 69; refine C.out.mono ?_; rintro e w1 ⟨v1, rfl, ho, hbb⟩; have HO1 := Aside0.mk (And.intro ho hbb); clear ho hbb)
    go_ret
    exact ⟨_, rfl, own_weaken HO1.out.1 HBX.out.2.2.2.2.2.1, step_below HBX.out.2.2.2.2.1 HBX.out.2.2.2.2.2.1 HO1.out.2⟩
  · have C := Aside0.mk (map_c A c xs W.heap.size n _ HBX.out.2.1 hc hl (HBX.out.2.2.2.2.2.2 1))
    go_enter Try.func43, Try.ntmps43
    go_wp2_with (go_at_call 72; refine C.out.mono ?_; rintro e w1 ⟨v1, rfl, ho, hbb⟩; have HO1 := Aside0.mk (And.intro ho hbb); clear ho hbb)
    go_ret
    exact ⟨_, rfl, own_weaken HO1.out.1 HBX.out.2.2.2.2.2.1, step_below HBX.out.2.2.2.2.1 HBX.out.2.2.2.2.2.1 HO1.out.2⟩
  · exact sliced5_c base w0 W A c xs n A2 c2 vals HOA.out HBX.out hb hc hvc hl hvl
end Go.Proofs.Ytapbnbinoakbhaa.SlcS
