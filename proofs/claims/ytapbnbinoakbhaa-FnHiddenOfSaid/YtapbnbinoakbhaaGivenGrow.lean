/-
  Proved: the contract of impl.Grown without mosts in the print's own form. Conditions: where its plain function gives an answer.
-/
import Derived.Test.YtapbnbinoakbhaaZGro
import Derived.Test.YtapbnbinoakbhaaGrowL
namespace Go.Proofs.Ytapbnbinoakbhaa.GivenGrow
open Go.RowKit Go.Proofs.YtapbnbinoakbhaaW.PrintWords Go.Proofs.Ytapbnbinoakbhaa.Common Go.Proofs.Ytapbnbinoakbhaa.SlcQ Go.Proofs.Ytapbnbinoakbhaa.SlcA Go.Proofs.Ytapbnbinoakbhaa.ZCol Go.Proofs.Ytapbnbinoakbhaa.ZReg Go.Proofs.Ytapbnbinoakbhaa.ZGro Go.Proofs.Ytapbnbinoakbhaa.GrowP Go.Proofs.Ytapbnbinoakbhaa.GrowL
set_option linter.unusedVariables false
set_option linter.unusedSimpArgs false
set_option maxRecDepth 1000000

theorem at_c (A : Option Addr) (c : Nat) (i : Int) (w : World) (hi : 0 ≤ i) : Calls Try.prog 37 #[.slice A 0 c, .int .i64 i] w fun e w' => e = .returned (.int .i64 0) ∧ w' = w := by
  have h : ¬ i < 0 := by omega
  go_enter Try.func37, Try.ntmps37
  go_wp2
  go_ret
  exact ⟨rfl, rfl⟩
def cfgs (q : Nat) : List Value := (List.replicate q (cfgV false).toList).flatten
theorem cfgs_len (q : Nat) : (cfgs q).length = q * 16 := by
  unfold cfgs
  rw [List.length_flatten, List.map_replicate, List.sum_replicate_nat]
  rfl
theorem cfgs_step (q : Nat) : cfgs q ++ (cfgV false).toList = cfgs (q + 1) := by
  unfold cfgs
  rw [List.replicate_succ', List.flatten_append]
  simp
theorem cfgs_at : ∀ (q j t : Nat) (u : Value), j < q → (cfgV false)[t]? = some u → (cfgs q)[j * 16 + t]? = some u
  | 0, j, t, u, hj, _ => by omega
  | q + 1, j, t, u, hj, hu => by
    have ht : t < 16 := by
      have := (Array.getElem?_eq_some_iff.1 hu).1
      exact this
    rw [← cfgs_step]
    by_cases e : j < q
    · rw [List.getElem?_append_left (by rw [cfgs_len]; omega)]
      exact cfgs_at q j t u e hu
    · obtain rfl : j = q := by omega
      rw [List.getElem?_append_right (by rw [cfgs_len]; omega), cfgs_len, Nat.add_sub_cancel_left]
      simpa using hu
theorem info84 : ∃ i0, Try.prog.info? 84 = some i0 ∧ i0.zero = some (.agg (cfgV false)) ∧ i0.size = 16 ∧ i0.bytes = 184 := by
  have h : (Try.prog.info? 84).map (fun i => (i.zero, i.size, i.bytes)) = some (some (.agg (cfgV false)), 16, 184) := by kernel_rfl
  obtain ⟨i0, hi, hz⟩ := Option.map_eq_some_iff.1 h
  simp only [Prod.mk.injEq] at hz
  exact ⟨i0, hi, hz.1, hz.2.1, hz.2.2⟩
theorem one1 : ∀ u ∈ (cfgV false).toList, u.oneCell' = true := fun u hu => List.all_eq_true.1 (show (cfgV false).toList.all (fun u => u.oneCell') = true from rfl) u hu
theorem le_max (q : Nat) (h : q ≤ 40) : q + 1 ≤ maxLen := by unfold maxLen; omega
set_option maxHeartbeats 8000000 in
theorem grown_c (A0 A1 : Option Addr) (c0 c1 : Nat) (l : List Int) (len least : Int) (w : World) (hx : CI w A0 l) (hn : 0 < l.length) (hn40 : l.length ≤ 40) (hl : ∀ x ∈ l, 0 ≤ x ∧ x ≤ 300) (h1 : 0 ≤ least ∧ least ≤ 3000) (h2 : 0 ≤ len ∧ len ≤ 3000) :
    Calls Try.prog 14 #[.slice A0 l.length c0, .slice A1 0 c1, .int .i64 len, .int .i64 least] w fun e w' => ∃ v, e = .returned v ∧ Own w' w.heap.size v (grow l (least - len).toNat) ∧ Below w.heap.size w w' := by
  have HX := Aside0.mk hx
  have HL := Aside0.mk hl
  obtain ⟨i0, hi, hz0, hz1, hz2⟩ := info84
  have HI := Aside0.mk hi
  have HZ0 := Aside0.mk hz0
  have HZ1 := Aside0.mk hz1
  have HZ2 := Aside0.mk hz2
  clear hx hl hi hz0 hz1 hz2
  go_enter Try.func14, Try.ntmps14
  go_wp2
  go_loopw [13, 9] (fun i v wr => ∃ (q : Nat) (u : Value), Value.int .i64 (q : Int) = i ∧ u = v ∧ q ≤ l.length ∧ Aside0 (wr.ownsRow w.heap.size 84 16 u q (cfgs q) ∧ Below w.heap.size w wr)) (fun i _ _ => l.length - (intOf i).toNat)
  case atStart => exact ⟨0, _, rfl, rfl, by omega, ⟨own_nil _ _ _ _, Below.refl _ _⟩⟩
  case round =>
    obtain ⟨q, u, rfl, rfl, hq, HS⟩ := hrel
    by_cases hlt : q < l.length
    · have C := Aside0.mk (at_c A1 c1 (q : Int) wr (by omega))
      have HO2 : Aside0 ((wr.alloc (.cells (cfgV false) 84)).ownsRow w.heap.size 84 16 u q (cfgs q)) := ⟨pw_own_below HS.out.1 (below_alloc (Below.refl _ _) _)⟩
      have HN2 : Aside0 (∀ j v', (cfgV false).toList[j]? = some v' → (wr.alloc (.cells (cfgV false) 84)).cell? ((⟨wr.heap.size, 0, none⟩ : Addr).add j) = some v') := ⟨fun j v' h => by
        rw [add_plain, cell_of_row _ _ _ _ _ _ (heap_alloc_new wr _)]
        simpa using h⟩
      have HB2 : Aside0 (Below w.heap.size w (wr.alloc (.cells (cfgV false) 84))) := ⟨below_alloc HS.out.2 _⟩
      unfold cfgV at HO2 HN2 HB2
      go_wp2_with (first
        | (go_at_call 37; refine C.out.mono ?_; rintro e w1 ⟨rfl, hw⟩; replace hw := hw.symm; subst hw)
        | ((with_reducible refine gate_builtin (b := .append) (xs := #[.tmp 16, .tmp 21]) rfl ?_); at_builtin; refine wpList_append_own _ rfl (.tmp 16) (.tmp 21) 75 rfl w.heap.size 84 i0 (.agg (cfgV false)) 16 184 Try.underlying75 HI.out HZ0.out HZ1.out HZ2.out rfl (by decide) u q (cfgs q) rfl HO2.out ⟨wr.heap.size, 0, none⟩ 1 1 (cfgV false).toList rfl rfl HN2.out one1 (le_max q (by omega)) (by omega) HB2.out.size ?_; intro v1 w1 ho hg _; rw [cfgs_step] at ho; have HO1 := Aside0.mk ho; have HG1 := Aside0.mk hg; clear ho hg))
      have HS2 : Aside0 (w1.ownsRow w.heap.size 84 16 v1 (q + 1) (cfgs (q + 1)) ∧ Below w.heap.size w w1) := ⟨HO1.out, HB2.out.grown HG1.out HB2.out.size (own_base HO2.out)⟩
      go_roundw
      case rel => exact ⟨q + 1, _, by go_num, rfl, by omega, HS2⟩
      case measure => simp [intOf]; omega
    · obtain rfl : q = l.length := by omega
      obtain ⟨g, cap, rfl, hgb, hgl⟩ := HS.out.1.form hn
      have Z := fun S hS hSz => Aside0.mk (zz_c A0 c0 l (some ⟨g, 0, none⟩) cap S least len wr g hS hSz (Kd.C_below HX.out HS.out.2) hn hn40 HL.out h1 h2 rfl (fun j t u hj hu => by
        have hc := HS.out.1.cells (g := g) rfl (j * 16 + t) u (cfgs_at _ j t u hj hu)
        rwa [add_plain] at hc))
      go_wp2_with (go_at_call 38; refine (Z _ rfl (by kernel_rfl)).out.mono ?_; rintro e w2 ⟨v, rfl, ho, hb⟩; have HE := Aside0.mk (And.intro ho hb); clear ho hb)
      go_ret
      exact ⟨_, rfl, own_weaken HE.out.1 HS.out.2.size, HS.out.2.trans (HE.out.2.mono HS.out.2.size)⟩
def impl_Grown.f (l l1 : List Int) (a1 a2 : Int) : Option (List Int) := if okg l l1 a1 a2 = true then some (grow l (a2 - a1).toNat) else none
theorem impl_Grown.calls (A0 : Option Addr) (c0 : Nat) (l0 : List Int) (A1 : Option Addr) (c1 : Nat) (l1 : List Int) (a1 a2 : Int) (r : List Int) (w : World) (hr0 : Kd.C (Kd.int .i64) w A0 l0.length l0) (hc0 : l0.length ≤ c0) (hr1 : Kd.C (Kd.int .i64) w A1 l1.length l1) (hc1 : l1.length ≤ c1) (h : impl_Grown.f l0 l1 a1 a2 = some r) :
    Calls Try.prog 14 #[.slice A0 l0.length c0, .slice A1 l1.length c1, .int .i64 a1, .int .i64 a2] w fun e w' => ∃ v0_ : Value, e = .returned v0_ ∧ Kd.R (Kd.int .i64) 3 w' w.heap.size (fun _ => True) v0_ r ∧ Below w.heap.size w w' := by
  unfold impl_Grown.f at h
  split at h
  · rename_i hok
    obtain ⟨hx, rfl, hn, hn40, h1, h2, h3, h4⟩ := (okg_iff _ _ _ _).1 hok
    obtain rfl := Option.some.inj h
    refine (grown_c A0 A1 c0 c1 l0 a1 a2 w hr0 hn hn40 hx ⟨h3, h4⟩ ⟨h1, h2⟩).mono ?_
    rintro e w' ⟨v, rfl, ho, hb⟩
    exact ⟨v, rfl, Kd.R_of_own (enc := Value.int .i64) ho (fun _ _ => trivial), hb⟩
  · cases h
end Go.Proofs.Ytapbnbinoakbhaa.GivenGrow
