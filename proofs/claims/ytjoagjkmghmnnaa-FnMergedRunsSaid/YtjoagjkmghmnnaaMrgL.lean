/-
  Proved: laws.FnMergedRuns returns true: the walk of the law. Conditions: none beyond the statement's own.
-/
import Derived.Test.YtjoagjkmghmnnaaMrgZ
import Derived.Test.YtjoagjkmghmnnaaGFnCsvRowx1
namespace Go.Proofs.Ytjoagjkmghmnnaa.MrgL
open Go.RowKit Go.Proofs.YtjoagjkmghmnnaaW.PrintWords Go.Proofs.YtjoagjkmghmnnaaW.PrintLast Go.Proofs.Ytjoagjkmghmnnaa.Common Go.Proofs.Ytjoagjkmghmnnaa.MrgP Go.Proofs.Ytjoagjkmghmnnaa.MrgW Go.Proofs.Ytjoagjkmghmnnaa.MrgZ Go.Proofs.Ytjoagjkmghmnnaa.GFnCsvRow
set_option linter.unusedVariables false
set_option linter.unusedSimpArgs false

theorem two_one (x : ByteArray) (c : Nat) (L : List (Nat × Nat)) (h : Inv [x, x] (2 - 1) c L) (hc : (2 : Int) - 1 ≤ (c : Int)) : L.length = 1 := by
  obtain ⟨p, hp, h1, h2⟩ := h.all 0 (by omega) (by decide) (by simp) rfl
  have key : ∀ q ∈ L, q = (0, 1) := fun q hq => by
    have hr := (h.runs q hq).1
    have a := hr.lt
    have b := hr.len
    have d := hr.low
    simp only [List.length_cons, List.length_nil] at b
    have e1 : q.1 = 0 := by omega
    have e2 : q.2 = 1 := by omega
    exact Prod.ext e1 e2
  cases L with
  | nil => simp at hp
  | cons q r =>
    cases r with
    | nil => rfl
    | cons q2 r2 =>
      have h1 := (List.pairwise_cons.1 h.pair).1 q2 (by simp)
      rw [key q (by simp), key q2 (by simp)] at h1
      simp at h1
theorem pair_c (W : World) : Calls Try.prog 21 #[.slice (some ⟨W.heap.size, 0, none⟩) 2 2, .int .i64 2] (W.alloc (.cells #[.string ⟨#[97]⟩, .string ⟨#[97]⟩] 9)) (PostM [⟨#[97]⟩, ⟨#[97]⟩] (2 - 1) (W.alloc (.cells #[.string ⟨#[97]⟩, .string ⟨#[97]⟩] 9))) := by
  refine merged_of (some ⟨W.heap.size, 0, none⟩) 2 [⟨#[97]⟩, ⟨#[97]⟩] 2 _ (Kd.C_of_reads (d := ByteArray.empty) ⟨rfl, by simp, fun _ => ⟨_, rfl, fun j hj => ?_⟩⟩) (by simp) (by simp) (by omega) (by omega)
  rw [add_plain, cell_of_row _ _ _ _ _ _ (heap_alloc_new W _)]
  simp only [List.length_cons, List.length_nil] at hj
  obtain rfl | rfl : j = 0 ∨ j = 1 := by omega
  · rfl
  · rfl
def lastOf (L : List (Nat × Nat)) (i : Nat) : Int := if i = 0 then -1 else ((L.getD (i - 1) (0, 0)).2 : Int)
theorem lastOf_lt {cells : List ByteArray} {bound : Int} {c : Nat} {L : List (Nat × Nat)} (h : Inv cells bound c L) {i : Nat} {p : Nat × Nat} (hp : L[i]? = some p) : lastOf L i < (p.1 : Int) := by
  unfold lastOf
  by_cases hi : i = 0
  · rw [if_pos hi]; omega
  · rw [if_neg hi]
    obtain ⟨hlt, hpe⟩ := List.getElem?_eq_some_iff.1 hp
    have h1 := List.pairwise_iff_getElem.1 h.pair (i - 1) i (by omega) hlt (by omega)
    rw [List.getD_eq_getElem?_getD, List.getElem?_eq_getElem (by omega)]
    simp only [Option.getD_some]
    rw [hpe] at h1
    omega
theorem lastOf_succ {L : List (Nat × Nat)} {i : Nat} {p : Nat × Nat} (hp : L[i]? = some p) : lastOf L (i + 1) = (p.2 : Int) := by
  unfold lastOf
  rw [if_neg (by omega), Nat.add_sub_cancel, List.getD_eq_getElem?_getD, hp]
  rfl
theorem row_cells {W w : World} {g n cap : Nat} {L : List (Nat × Nat)} (h : W.ownsRow w.heap.size 34 2 (.slice (some ⟨g, 0, none⟩) n cap) n (flat L)) {i : Nat} {p : Nat × Nat} (hp : L[i]? = some p) :
    W.cell? ⟨g, i * 2, none⟩ = some (.int .i64 (p.1 : Int)) ∧ W.cell? ⟨g, i * 2 + 1, none⟩ = some (.int .i64 (p.2 : Int)) := by
  rw [Nat.mul_comm i 2]
  obtain ⟨h1, h2⟩ := flat_at L i p hp
  have a := h.cells (g := g) rfl (2 * i) _ h1
  have b := h.cells (g := g) rfl (2 * i + 1) _ h2
  rw [add_plain] at a b
  exact ⟨a, b⟩
set_option maxHeartbeats 8000000 in
set_option maxRecDepth 1000000 in
theorem main (A : Option Addr) (cp : Nat) (cells : List ByteArray) (columns : Int) (w : World) (F : ∀ W, Below w.heap.size w W → Calls Try.prog 19 #[.slice A cells.length cp] W fun e w' => e = .returned (.bool true) ∧ Drawn0 W w')
    (T : ∀ W, Below w.heap.size w W → Calls Try.prog 20 #[.slice A cells.length cp, .int .i64 4000] W fun e w' => e = .returned (.bool true) ∧ Drawn0 W w')
    (hr : Kd.C Kd.string w A cells.length cells) (hcp : cells.length ≤ cp) (hl : cells.length ≤ 100) (hc0 : 0 ≤ columns) (hc1 : columns ≤ 200) :
    Calls Try.prog 6 #[.slice A cells.length cp, .int .i64 columns] w fun e w' => e = .returned (.bool true) ∧ Below w.heap.size w w' := by
  have HF := Aside0.mk F
  have HT := Aside0.mk T
  have HR := Aside0.mk hr
  have MC : Aside0 (∀ W, Below w.heap.size w W → Calls Try.prog 21 #[.slice A cells.length cp, .int .i64 columns] W (PostM cells (columns - 1) W)) := ⟨fun W hb => merged_of A cp cells columns W (Kd.C_below hr hb) hcp hl hc0 hc1⟩
  clear F T hr
  go_enter Try.func6, Try.ntmps6
  go_wp2_with (first
    | (go_at_call 19; refine (HF.out _ (Below.refl _ _)).mono ?_; rintro e w1 ⟨rfl, ⟨nd, rfl⟩⟩)
    | (go_at_call 20; refine (HT.out _ (pw_below_drewN (Below.refl _ _) _)).mono ?_; rintro e w1 ⟨rfl, ⟨nd2, rfl⟩⟩)
    | (go_at_call 21; refine (MC.out _ (pw_below_drewN (Below.refl _ _) _)).mono ?_; rintro e w1 ⟨v, c, L, rfl, h1, h2, h3, h4⟩; have H1 := Aside0.mk h1; have H2 := Aside0.mk h2; have H3 := Aside0.mk h3; have H4 := Aside0.mk h4; clear h1 h2 h3 h4))
  obtain ⟨A2, c2, rfl⟩ := own_slice H3.out
  have HLL := Aside0.mk (runs_len H2.out)
  have HB0 : Aside0 (Below w.heap.size w w1) := ⟨below_step (pw_below_drewN (Below.refl _ _) _) H4.out⟩
  have HO0 : Aside0 (w1.ownsRow w.heap.size 34 2 (.slice A2 L.length c2) L.length (flat L)) := ⟨H3.out⟩
  clear H3 H4 HF HT
  have hLl : L.length ≤ 100 := by have := HLL.out; omega
  go_loopw [6, 7] (fun la u wr => ∃ i : Nat, Value.int .i64 (lastOf L i) = la ∧ Value.int .i64 (i : Int) = u ∧ i ≤ L.length ∧ Aside0 (wr.ownsRow w.heap.size 34 2 (.slice A2 L.length c2) L.length (flat L)) ∧ Aside0 (Below w.heap.size w wr)) (fun _ u _ => L.length - (intOf u).toNat)
  case atStart => exact ⟨0, rfl, rfl, by omega, HO0, HB0⟩
  case round =>
    obtain ⟨i, rfl, rfl, hi, HO, HB⟩ := hrel
    by_cases hlt : i < L.length
    · obtain ⟨⟨a, b⟩, hp⟩ : ∃ p, L[i]? = some p := ⟨_, List.getElem?_eq_getElem hlt⟩
      have hrun := (H2.out.runs _ (List.mem_of_getElem? hp)).1
      have hla := lastOf_lt H2.out hp
      have HSU := Aside0.mk (lastOf_succ hp)
      obtain ⟨g, cap, e, _, _⟩ := HO.out.form (by omega)
      injection e with e1 _ e3
      subst e1
      subst e3
      obtain ⟨hc1', hc2'⟩ := row_cells HO.out hp
      obtain ⟨la, hle⟩ : ∃ la, la = lastOf L i := ⟨_, rfl⟩
      rw [← hle] at hla ⊢
      have hab := hrun.lt
      have hbl := hrun.len
      have hlow := hrun.low
      have HSAME := Aside0.mk hrun.same
      have HLEFT := Aside0.mk hrun.left
      have HRIGHT := Aside0.mk hrun.right
      simp only at hab hbl hlow hla hc1' hc2'
      clear hrun hle hp
      go_wp2
      go_region
      have hcl : (cells.length : Int) ≤ 100 := by omega
      go_wp2
      obtain ⟨wo, hwo⟩ : ∃ wo, wo = wr := ⟨_, rfl⟩
      subst hwo
      clear hc1' hc2'
      obtain ⟨ad, hA⟩ : ∃ ad, A = some ad := by
        obtain ⟨ad, he, _⟩ := cell_in HR.out HB.out (List.getElem?_eq_getElem (show a < cells.length by omega))
        exact ⟨ad, he⟩
      subst hA
      have CI : Aside0 (∀ (k : Nat) (x : ByteArray) (W' : World), Below w.heap.size w W' → cells[k]? = some x → W'.cell? (ad.add k) = some (.string x)) := ⟨fun k x W' hb hx => by
        obtain ⟨ad2, e2, hcx⟩ := cell_in HR.out hb hx
        cases e2
        exact hcx⟩
      go_loopw [10] (fun u wi => ∃ q : Nat, Value.int .i64 (q : Int) = u ∧ a ≤ q ∧ q ≤ b ∧ Aside0 (wi.ownsRow w.heap.size 34 2 (.slice (some ⟨g, 0, none⟩) L.length c2) L.length (flat L)) ∧ Aside0 (Below w.heap.size w wi)) (fun u _ => 1000 - (intOf u).toNat)
      case atStart => exact ⟨a, rfl, Nat.le_refl _, by omega, ⟨HO.out⟩, ⟨below_drew HB.out⟩⟩
      case round =>
        obtain ⟨q, rfl, hq1, hq2, HO2, HB2⟩ := hrel
        by_cases hqb : q < b
        · obtain ⟨x, hx⟩ : ∃ x, cells[q]? = some x := ⟨_, List.getElem?_eq_getElem (by omega)⟩
          have hx1 : cells[q + 1]? = some x := by rw [← HSAME.out q hq1 hqb]; exact hx
          obtain ⟨q1, hq1e⟩ : ∃ q1, q1 = q + 1 := ⟨_, rfl⟩
          rw [← hq1e] at hx1
          have hcx := CI.out q x _ HB2.out hx
          have hcy := CI.out q1 x _ HB2.out hx1
          have j2 : (q : Int) < (cells.length : Int) := by omega
          have j3 : (q1 : Int) < (cells.length : Int) := by omega
          have j4 : q < cells.length := by omega
          have j5 : q1 < cells.length := by omega
          have hw : IntKind.i64.wrap ((q : Int) + 1) = (q1 : Int) := by simp [IntKind.wrap, IntKind.bits, IntKind.signed]; omega
          have HW := Aside0.mk hw
          clear hx hx1 hq1e hw
          go_wp2
          have hw := HW.out
          go_region
          clear hw
          go_wp2
          go_roundw
          case rel => exact ⟨q + 1, by go_num, by omega, by omega, ⟨HO2.out⟩, ⟨below_drew HB2.out⟩⟩
          case measure => simp [intOf]; omega
        · obtain rfl : q = b := by omega
          have fin : ∀ W', W' = wr.drew → Aside0 (W'.ownsRow w.heap.size 34 2 (.slice (some ⟨g, 0, none⟩) L.length c2) L.length (flat L)) ∧ Aside0 (Below w.heap.size w W') := fun W' e => by subst e; exact ⟨⟨HO2.out⟩, ⟨below_drew HB2.out⟩⟩
          obtain ⟨xa, hxa⟩ : ∃ x, cells[a]? = some x := ⟨_, List.getElem?_eq_getElem (by omega)⟩
          obtain ⟨xb, hxb⟩ : ∃ x, cells[q]? = some x := ⟨_, List.getElem?_eq_getElem (by omega)⟩
          have hca := CI.out a xa _ HB2.out hxa
          have hcb := CI.out q xb _ HB2.out hxb
          by_cases ha0 : 0 < a
          · obtain ⟨x0, hx0⟩ : ∃ x, cells[a - 1]? = some x := ⟨_, List.getElem?_eq_getElem (by omega)⟩
            have hne0 : ¬ x0.toList = xa.toList := fun e => HLEFT.out ha0 (by rw [hx0, hxa]; rw [tl, tl] at e; exact congrArg some (WideShapes.bytes_inj e))
            have hnb0 : (x0.toList == xa.toList) = false := by simpa using hne0
            obtain ⟨a1, ha1⟩ : ∃ a1, a1 = a - 1 := ⟨_, rfl⟩
            rw [← ha1] at hx0
            have hc0x := CI.out a1 x0 _ HB2.out hx0
            have t1 : (0 < (a : Int)) = True := eq_true (by omega)
            have t2 : ((a1 : Int) < (cells.length : Int)) = True := eq_true (by omega)
            have u1 : decide (0 < (a : Int)) = true := decide_eq_true (by omega)
            have hw0 : IntKind.i64.wrap ((a : Int) - 1) = (a1 : Int) := by simp [IntKind.wrap, IntKind.bits, IntKind.signed]; omega
            have HW0 := Aside0.mk hw0
            clear hx0 ha1 hw0
            by_cases hb1 : q + 1 < cells.length
            · obtain ⟨x1, hx1⟩ : ∃ x, cells[q + 1]? = some x := ⟨_, List.getElem?_eq_getElem hb1⟩
              have hne1 : ¬ x1.toList = xb.toList := fun e => HRIGHT.out hb1 (by rw [hx1, hxb]; rw [tl, tl] at e; exact congrArg some (WideShapes.bytes_inj e))
              have hnb1 : (x1.toList == xb.toList) = false := by simpa using hne1
              obtain ⟨q1, hq1e⟩ : ∃ q1, q1 = q + 1 := ⟨_, rfl⟩
              rw [← hq1e] at hx1
              have hc1x := CI.out q1 x1 _ HB2.out hx1
              have t3 : ((q1 : Int) < (cells.length : Int)) = True := eq_true (by omega)
              have u3 : decide ((q1 : Int) < (cells.length : Int)) = true := decide_eq_true (by omega)
              have hw1 : IntKind.i64.wrap ((q : Int) + 1) = (q1 : Int) := by simp [IntKind.wrap, IntKind.bits, IntKind.signed]; omega
              have HW1 := Aside0.mk hw1
              clear hx1 hq1e hw1
              have t4 : (0 ≤ (a : Int)) = True := eq_true (by omega)
              have t5 : ((a : Int) < (cells.length : Int)) = True := eq_true (by omega)
              have t8 : (0 ≤ (q : Int)) = True := eq_true (by omega)
              have t9 : ((q : Int) < (cells.length : Int)) = True := eq_true (by omega)
              clear hxa hxb
              go_wp2
              have hw1 := HW1.out
              have hw0 := HW0.out
              go_quiet (fail)
              clear hw1 hw0
              have HO3 : Aside0 ((wr.drewN nq).ownsRow w.heap.size 34 2 (.slice (some ⟨g, 0, none⟩) L.length c2) L.length (flat L)) := ⟨HO2.out⟩
              have HB3 : Aside0 (Below w.heap.size w (wr.drewN nq)) := ⟨pw_below_drewN HB2.out nq⟩
              go_wp2
              go_roundw
              case rel => exact ⟨i + 1, by rw [HSU.out], by go_num, by omega, HO3, HB3⟩
              case measure => simp [intOf]; omega
            · obtain ⟨q1, hq1e⟩ : ∃ q1, q1 = q + 1 := ⟨_, rfl⟩
              have t3 : ((q1 : Int) < (cells.length : Int)) = False := eq_false (by omega)
              have u3 : decide ((q1 : Int) < (cells.length : Int)) = false := decide_eq_false (by omega)
              have hw1 : IntKind.i64.wrap ((q : Int) + 1) = (q1 : Int) := by simp [IntKind.wrap, IntKind.bits, IntKind.signed]; omega
              have HW1 := Aside0.mk hw1
              clear hq1e hw1
              have t4 : (0 ≤ (a : Int)) = True := eq_true (by omega)
              have t5 : ((a : Int) < (cells.length : Int)) = True := eq_true (by omega)
              have t8 : (0 ≤ (q : Int)) = True := eq_true (by omega)
              have t9 : ((q : Int) < (cells.length : Int)) = True := eq_true (by omega)
              clear hxa hxb
              go_wp2
              have hw1 := HW1.out
              have hw0 := HW0.out
              go_quiet (fail)
              clear hw1 hw0
              have HO3 : Aside0 ((wr.drewN nq).ownsRow w.heap.size 34 2 (.slice (some ⟨g, 0, none⟩) L.length c2) L.length (flat L)) := ⟨HO2.out⟩
              have HB3 : Aside0 (Below w.heap.size w (wr.drewN nq)) := ⟨pw_below_drewN HB2.out nq⟩
              go_wp2
              go_roundw
              case rel => exact ⟨i + 1, by rw [HSU.out], by go_num, by omega, HO3, HB3⟩
              case measure => simp [intOf]; omega
          · have t1 : (0 < (a : Int)) = False := eq_false (by omega)
            have u1 : decide (0 < (a : Int)) = false := decide_eq_false (by omega)
            by_cases hb1 : q + 1 < cells.length
            · obtain ⟨x1, hx1⟩ : ∃ x, cells[q + 1]? = some x := ⟨_, List.getElem?_eq_getElem hb1⟩
              have hne1 : ¬ x1.toList = xb.toList := fun e => HRIGHT.out hb1 (by rw [hx1, hxb]; rw [tl, tl] at e; exact congrArg some (WideShapes.bytes_inj e))
              have hnb1 : (x1.toList == xb.toList) = false := by simpa using hne1
              obtain ⟨q1, hq1e⟩ : ∃ q1, q1 = q + 1 := ⟨_, rfl⟩
              rw [← hq1e] at hx1
              have hc1x := CI.out q1 x1 _ HB2.out hx1
              have t3 : ((q1 : Int) < (cells.length : Int)) = True := eq_true (by omega)
              have u3 : decide ((q1 : Int) < (cells.length : Int)) = true := decide_eq_true (by omega)
              have hw1 : IntKind.i64.wrap ((q : Int) + 1) = (q1 : Int) := by simp [IntKind.wrap, IntKind.bits, IntKind.signed]; omega
              have HW1 := Aside0.mk hw1
              clear hx1 hq1e hw1
              have t4 : (0 ≤ (a : Int)) = True := eq_true (by omega)
              have t5 : ((a : Int) < (cells.length : Int)) = True := eq_true (by omega)
              have t8 : (0 ≤ (q : Int)) = True := eq_true (by omega)
              have t9 : ((q : Int) < (cells.length : Int)) = True := eq_true (by omega)
              clear hxa hxb
              go_wp2
              have hw1 := HW1.out
              go_quiet (fail)
              clear hw1
              have HO3 : Aside0 ((wr.drewN nq).ownsRow w.heap.size 34 2 (.slice (some ⟨g, 0, none⟩) L.length c2) L.length (flat L)) := ⟨HO2.out⟩
              have HB3 : Aside0 (Below w.heap.size w (wr.drewN nq)) := ⟨pw_below_drewN HB2.out nq⟩
              go_wp2
              go_roundw
              case rel => exact ⟨i + 1, by rw [HSU.out], by go_num, by omega, HO3, HB3⟩
              case measure => simp [intOf]; omega
            · obtain ⟨q1, hq1e⟩ : ∃ q1, q1 = q + 1 := ⟨_, rfl⟩
              have t3 : ((q1 : Int) < (cells.length : Int)) = False := eq_false (by omega)
              have u3 : decide ((q1 : Int) < (cells.length : Int)) = false := decide_eq_false (by omega)
              have hw1 : IntKind.i64.wrap ((q : Int) + 1) = (q1 : Int) := by simp [IntKind.wrap, IntKind.bits, IntKind.signed]; omega
              have HW1 := Aside0.mk hw1
              clear hq1e hw1
              have t4 : (0 ≤ (a : Int)) = True := eq_true (by omega)
              have t5 : ((a : Int) < (cells.length : Int)) = True := eq_true (by omega)
              have t8 : (0 ≤ (q : Int)) = True := eq_true (by omega)
              have t9 : ((q : Int) < (cells.length : Int)) = True := eq_true (by omega)
              clear hxa hxb
              go_wp2
              have hw1 := HW1.out
              go_quiet (fail)
              clear hw1
              have HO3 : Aside0 ((wr.drewN nq).ownsRow w.heap.size 34 2 (.slice (some ⟨g, 0, none⟩) L.length c2) L.length (flat L)) := ⟨HO2.out⟩
              have HB3 : Aside0 (Below w.heap.size w (wr.drewN nq)) := ⟨pw_below_drewN HB2.out nq⟩
              go_wp2
              go_roundw
              case rel => exact ⟨i + 1, by rw [HSU.out], by go_num, by omega, HO3, HB3⟩
              case measure => simp [intOf]; omega
    · have MC2 := pair_c wr
      go_wp2_with (go_at_call 21; refine MC2.mono ?_; rintro e w5 ⟨v5, c5, L5, rfl, h1, h2, h3, h4⟩; have hL5 := two_one _ c5 L5 h2 h1; have HB5 := Aside0.mk (below_step (below_alloc HB.out _) h4); rw [hL5] at h3; obtain ⟨A5, cp5, rfl⟩ := own_slice h3; clear h1 h2 h3 h4 hL5)
      go_ret
      exact ⟨rfl, HB5.out⟩
set_option maxHeartbeats 8000000 in
set_option maxRecDepth 1000000 in
/-- outside its guards the law says true at once -/
theorem guard1 (A : Option Addr) (cp : Nat) (cells : List ByteArray) (columns : Int) (w : World) (F : Calls Try.prog 19 #[.slice A cells.length cp] w fun e w' => e = .returned (.bool false) ∧ Drawn0 w w') :
    Calls Try.prog 6 #[.slice A cells.length cp, .int .i64 columns] w fun e w' => e = .returned (.bool true) ∧ Below w.heap.size w w' := by
  have HF := Aside0.mk F
  clear F
  go_enter Try.func6, Try.ntmps6
  go_wp2_with (go_at_call 19; refine HF.out.mono ?_; rintro e w1 ⟨rfl, ⟨nd, rfl⟩⟩)
  go_ret
  exact ⟨rfl, pw_below_drewN (Below.refl _ _) _⟩
set_option maxHeartbeats 8000000 in
set_option maxRecDepth 1000000 in
theorem guard2 (A : Option Addr) (cp : Nat) (cells : List ByteArray) (columns : Int) (w : World) (b : Bool) (F : Calls Try.prog 19 #[.slice A cells.length cp] w fun e w' => e = .returned (.bool true) ∧ Drawn0 w w')
    (T : ∀ W, Below w.heap.size w W → Calls Try.prog 20 #[.slice A cells.length cp, .int .i64 4000] W fun e w' => e = .returned (.bool b) ∧ Drawn0 W w') (hl : cells.length ≤ 2147483647)
    (h : 100 < cells.length ∨ cells.length ≤ 100 ∧ (b = false ∨ b = true ∧ (columns < 0 ∨ 0 ≤ columns ∧ 200 < columns))) :
    Calls Try.prog 6 #[.slice A cells.length cp, .int .i64 columns] w fun e w' => e = .returned (.bool true) ∧ Below w.heap.size w w' := by
  have HF := Aside0.mk F
  have HT := Aside0.mk T
  clear F T
  rcases h with h1 | ⟨h1, rfl | ⟨rfl, h2 | ⟨h2, h3⟩⟩⟩
  all_goals
    go_enter Try.func6, Try.ntmps6
    go_wp2_with (first
      | (go_at_call 19; refine HF.out.mono ?_; rintro e w1 ⟨rfl, ⟨nd, rfl⟩⟩)
      | (go_at_call 20; refine (HT.out _ (pw_below_drewN (Below.refl _ _) _)).mono ?_; rintro e w1 ⟨rfl, ⟨nd2, rfl⟩⟩))
    go_ret
    exact ⟨rfl, pw_below_drewN (Below.refl _ _) _⟩
theorem law (A : Option Addr) (cp : Nat) (cells : List ByteArray) (columns : Int) (w : World) (hr : Kd.C Kd.string w A cells.length cells) (hcp : cells.length ≤ cp) :
    Calls Try.prog 6 #[.slice A cells.length cp, .int .i64 columns] w fun e w' => e = .returned (.bool true) ∧ Below w.heap.size w w' := by
  obtain ⟨b1, hb1, hs⟩ := fits4 laws_zzFits4.l0 (fun k x8 x9 x10 => by simp only [laws_zzFits4.l0]) laws_zzFits4.f (fun k l => by simp only [laws_zzFits4.f]) cells
  obtain ⟨k1, hk1⟩ := Ev.rounds hb1
  have F : ∀ W, Below w.heap.size w W → Calls Try.prog 19 #[.slice A cells.length cp] W fun e w' => e = .returned (.bool b1) ∧ Drawn0 W w' := fun W hb => laws_zzFits4.calls k1 A cp cells b1 W (Kd.C_below hr hb) hcp hk1
  cases b1 with
  | false => exact guard1 A cp cells columns w (F w (Below.refl _ _))
  | true =>
    obtain ⟨hl, hsz⟩ := hs rfl
    obtain ⟨b2, hb2, ht⟩ := texts_ev laws_texts.l0 (fun k x0 x1 x5 x6 => by simp only [laws_texts.l0]) laws_texts.f (fun k l m => by simp only [laws_texts.f]) cells 4000 (by omega) hl hsz
    obtain ⟨k2, hk2⟩ := Ev.rounds hb2
    have T : ∀ W, Below w.heap.size w W → Calls Try.prog 20 #[.slice A cells.length cp, .int .i64 4000] W fun e w' => e = .returned (.bool b2) ∧ Drawn0 W w' := fun W hb => laws_texts.calls k2 A cp cells 4000 b2 W (Kd.C_below hr hb) hcp hk2
    by_cases h100 : 100 < cells.length
    · exact guard2 A cp cells columns w b2 (F w (Below.refl _ _)) T hl (.inl h100)
    · cases b2 with
      | false => exact guard2 A cp cells columns w false (F w (Below.refl _ _)) T hl (.inr ⟨by omega, .inl rfl⟩)
      | true =>
        by_cases h0 : columns < 0
        · exact guard2 A cp cells columns w true (F w (Below.refl _ _)) T hl (.inr ⟨by omega, .inr ⟨rfl, .inl h0⟩⟩)
        · by_cases h2 : 200 < columns
          · exact guard2 A cp cells columns w true (F w (Below.refl _ _)) T hl (.inr ⟨by omega, .inr ⟨rfl, .inr ⟨by omega, h2⟩⟩⟩)
          · exact main A cp cells columns w F T hr hcp (by omega) (by omega) (by omega)
end Go.Proofs.Ytjoagjkmghmnnaa.MrgL
