/-
  Proved: the law FnSlicer returns true. Conditions: none beyond the arguments' being readable.
-/
import Derived.Test.YtapbnbinoakbhaaSlcL
namespace Go.Proofs.Ytapbnbinoakbhaa.SlcZ
open Go.RowKit Go.Proofs.YtapbnbinoakbhaaW.PrintWords Go.Proofs.YtapbnbinoakbhaaW.PrintLast Go.Proofs.Ytapbnbinoakbhaa.Common Go.Proofs.Ytapbnbinoakbhaa.SlcQ Go.Proofs.Ytapbnbinoakbhaa.SlcF Go.Proofs.Ytapbnbinoakbhaa.SlcA Go.Proofs.Ytapbnbinoakbhaa.SlcM Go.Proofs.Ytapbnbinoakbhaa.SlcS Go.Proofs.Ytapbnbinoakbhaa.SlcV Go.Proofs.Ytapbnbinoakbhaa.SlcE Go.Proofs.Ytapbnbinoakbhaa.GES Go.Proofs.Ytapbnbinoakbhaa.SlcT Go.Proofs.Ytapbnbinoakbhaa.SlcL
set_option linter.unusedVariables false
set_option linter.unusedSimpArgs false
set_option maxRecDepth 1000000

theorem spec_c (w0 W : World) (u : Value) (xs : List Int) (d n : Int) (A2 : Option Addr) (c2 : Nat) (vs : List Int) (HO : Own W w0.heap.size u xs) (HB : Below w0.heap.size w0 W) (HV : CI w0 A2 vs) (hc : vs.length ≤ c2) (hl : xs.length ≤ 4294967296) (hv : vs.length ≤ 4294967296) :
    Calls Try.prog 20 #[u, .agg #[.int .i64 d, .int .i64 n, .slice A2 vs.length c2]] W fun e w' => ∃ u1, e = .returned u1 ∧ Own w' w0.heap.size u1 (sl xs d n vs) ∧ Below w0.heap.size w0 w' := by
  obtain ⟨k, hk⟩ := Ev.rounds (g := fun k => spec_TwSliced.f k xs d n vs) (sliced_ev xs d n vs hl hv)
  refine (spec_TwSliced.calls k (fun k => w0.heap.size ≤ k) u xs d n A2 c2 vs _ w0 W HB (Kd.R_of_own (enc := Value.int .i64) (h1 := fun _ => rfl) HO (fun k hk => own_base HO k hk)) (Kd.C_kept_came (Kd.heap_int .i64) HV HB (fun k h => h)) hc hk).mono ?_
  rintro e w' ⟨v, rfl, hr, hb, -⟩
  exact ⟨v, rfl, Kd.own_of_R hr, hb⟩
theorem facts_any (base : Nat) (W : World) (u : Value) (xs : List Int) (i least : Int) (HO : Own W base u xs) (hl : xs.length ≤ 2000) :
    Calls Try.prog 22 #[u, .int .i64 i, .int .i64 least] W fun e w' => e = .returned (.agg (factsV u xs i least)) ∧ Below W.heap.size W w' := by
  by_cases h0 : 0 < xs.length
  · obtain ⟨g, cap, rfl, hgb, hgl⟩ := HO.form h0
    have HC : ∀ m (h : m < xs.length), W.cell? ⟨g, m, none⟩ = some (.int .i64 xs[m]) := fun m h => by
      have := (own_at HO (m : Int) (by omega) (by omega)).1
      rwa [rd_at _ _ h, Int.toNat_natCast] at this
    by_cases hi : 0 ≤ i ∧ i < xs.length
    · obtain ⟨k, rfl⟩ : ∃ k : Nat, i = (k : Int) := ⟨i.toNat, by omega⟩
      exact facts_in g cap xs k least W (by omega) (by omega) hgl (by omega) HC
    · exact facts_out g cap xs i least W (by omega) (by omega) hgl hi HC
  · obtain rfl : xs = [] := List.eq_nil_of_length_eq_zero (by omega)
    obtain ⟨A, c, rfl, -, -⟩ := HO.slice
    exact facts_nil A c i least W
theorem slicer_any (nb : Bool) (A : Option Addr) (c : Nat) (l : List S53) (i least : Int) (w : World) (hr : Kd.C k53 w A l.length l) (hc : l.length ≤ c) (ok : Ok l) :
    Calls Try.prog 21 #[.bool nb, .slice A l.length c, .int .i64 i, .int .i64 least] w fun e w' => ∃ v, e = .returned (.agg (factsV v (foldS l) i least)) ∧ Own w' w.heap.size v (foldS l) ∧ Below w.heap.size w w' := by
  cases nb
  · exact slicer_made A c l i least w hr hc ok
  · exact slicer_nil A c l i least w hr hc ok
theorem fits_c (A : Option Addr) (c : Nat) (l : List S53) (w : World) (hr : Kd.C k53 w A l.length l) (hc : l.length ≤ c) :
    ∃ b : Bool, (Calls Try.prog 19 #[.slice A l.length c] w fun e w' => e = .returned (.bool b) ∧ Below w.heap.size w w') ∧ (b = true → l.length ≤ 2147483647 ∧ ∀ o ∈ l, o.f2.length ≤ 2147483647) := by
  obtain ⟨b, hb, hs⟩ := fits_ev l
  obtain ⟨k, hk⟩ := Ev.rounds hb
  exact ⟨b, laws_zzFits29.calls k A c l b w hr hc hk, hs⟩
theorem own_ci {w : World} {base : Nat} {A : Option Addr} {c : Nat} {xs : List Int} (h : Own w base (.slice A xs.length c) xs) : CI w A xs := by
  obtain ⟨A', c', e, _, hci⟩ := Own.slice h
  injection e with e1
  subst e1
  exact hci
set_option maxHeartbeats 8000000 in
theorem law_c (nb : Bool) (A : Option Addr) (c : Nat) (l : List S53) (i least : Int) (w : World) (hr : Kd.C k53 w A l.length l) (hc : l.length ≤ c) :
    Calls Try.prog 7 #[.bool nb, .slice A l.length c, .int .i64 i, .int .i64 least] w fun e w' => e = .returned (.bool true) ∧ Below w.heap.size w w' := by
  obtain ⟨b, hF, hfit⟩ := fits_c A c l w hr hc
  have HF := Aside0.mk hF
  have HFIT := Aside0.mk hfit
  have HR := Aside0.mk hr
  have hu53 := Try.underlying53
  clear hF hfit hr
  cases b with
  | false =>
    go_enter Try.func7, Try.ntmps7
    go_wp2_with (go_at_call 19; refine HF.out.mono ?_; rintro e w1 ⟨rfl, hb⟩; have HB := Aside0.mk hb; clear hb)
    go_ret
    exact ⟨rfl, HB.out⟩
  | true =>
    have hmax := (HFIT.out rfl).1
    by_cases h200 : l.length ≤ 200
    · have HVL := Aside0.mk (HFIT.out rfl).2
      clear HFIT
      go_enter Try.func7, Try.ntmps7
      go_wp2_with (go_at_call 19; refine HF.out.mono ?_; rintro e w1 ⟨rfl, hb⟩; have HB := Aside0.mk hb; clear hb)
      go_loopw [10, 9] (fun q v wr => ∃ (m : Nat) (u : Value), Value.int .i64 (m : Int) = q ∧ u = v ∧ m ≤ l.length ∧ Aside0 (Own wr w.heap.size u (foldS (l.take m)) ∧ Below w.heap.size w wr) ∧ Aside0 (∀ j (h : j < l.length), j < m → l[j].f0 = 0 ∨ l[j].f0 = 1 ∨ l[j].f0 = 2 ∨ l[j].f0 = 3 ∨ l[j].f0 = 4 ∨ l[j].f0 = 5) ∧ Aside0 (∀ j, j ≤ m → (foldS (l.take j)).length ≤ 2000)) (fun q _ _ => l.length - (intOf q).toNat)
      case atStart => exact ⟨0, _, rfl, rfl, by omega, ⟨own_nil _ _ _ _, HB.out⟩, ⟨fun j h h2 => by omega⟩, ⟨fun j h => by
        have e : j = 0 := by omega
        rw [e]
        exact Nat.zero_le _⟩⟩
      case round =>
        obtain ⟨m, u, rfl, rfl, hml, HS, HK, HL⟩ := hrel
        by_cases hlt : m < l.length
        · obtain ⟨ad, A2, c2, e, hx0, hx1, hx2, hvc, hvi⟩ := at_T53 HR.out (m : Int) (by omega) (by omega)
          cases e
          replace hx0 := pw_cell_below HS.out.2 hx0
          replace hx1 := pw_cell_below HS.out.2 hx1
          replace hx2 := pw_cell_below HS.out.2 hx2
          rw [rd53 l m hlt] at hx0 hx1 hx2 hvc hvi
          simp only [Int.toNat_natCast] at hx0 hx1 hx2
          obtain ⟨o, ho⟩ : ∃ o, o = l[m] := ⟨_, rfl⟩
          rw [← ho] at hx0 hx1 hx2 hvc hvi
          have hom : o ∈ l := by rw [ho]; exact List.getElem_mem _
          have hvl : o.f2.length ≤ 2147483647 := HVL.out o hom
          have C := Aside0.mk (spec_c w wr u (foldS (l.take m)) o.f0 o.f1 A2 c2 o.f2 HS.out.1 HS.out.2 hvi hvc (by have := HL.out m (Nat.le_refl _); omega) (by omega))
          have HSTEP := foldS_step l m hlt
          rw [← ho] at HSTEP
          rw [← HSTEP] at C
          have HLB := HL
          obtain ⟨ys, hys⟩ : ∃ ys, ys = foldS (l.take (m + 1)) := ⟨_, rfl⟩
          rw [← hys] at C
          have HYS := Aside0.mk hys
          have hyl : ys.length ≤ 5000000000 := by
            rw [hys, HSTEP]
            have h1 := HL.out m (Nat.le_refl _)
            unfold sl
            split
            · rw [List.length_append]; omega
            · split
              · rw [List.length_append]; omega
              · split
                · have := List.length_filter_le (fun x => decide (x ∈ o.f2)) (foldS (l.take m)); unfold keepIn; omega
                · split
                  · unfold plusN; rw [List.length_map]; omega
                  · omega
          have HO := Aside0.mk ho
          obtain ⟨d, hd⟩ : ∃ d, d = o.f0 := ⟨_, rfl⟩
          obtain ⟨n, hn⟩ : ∃ n, n = o.f1 := ⟨_, rfl⟩
          obtain ⟨vs, hvs⟩ : ∃ vs, vs = o.f2 := ⟨_, rfl⟩
          rw [← hd] at hx0 C
          rw [← hn] at hx1 C
          rw [← hvs] at hx2 hvc hvi C hvl
          have HD := Aside0.mk hd
          have HBW := Aside0.mk HS.out.2
          clear HSTEP ho hom HS hn hvs hvi hys hd
          by_cases h0 : d < 0
          · clear C HO HD
            go_wp2
            go_ret
            exact ⟨rfl, HBW.out⟩
          · by_cases h5 : 5 < d
            · clear C HO HD
              go_wp2
              go_ret
              exact ⟨rfl, HBW.out⟩
            · have HK2 : Aside0 (∀ j (h : j < l.length), j < m + 1 → l[j].f0 = 0 ∨ l[j].f0 = 1 ∨ l[j].f0 = 2 ∨ l[j].f0 = 3 ∨ l[j].f0 = 4 ∨ l[j].f0 = 5) := ⟨fun j h h2 => by
                by_cases e : j < m
                · exact HK.out j h e
                · obtain rfl : j = m := by omega
                  rw [← HO.out, ← HD.out]
                  omega⟩
              by_cases hy : ys.length ≤ 2000
              · have HL2 : Aside0 (∀ j, j ≤ m + 1 → (foldS (l.take j)).length ≤ 2000) := ⟨fun j h => by
                  by_cases e : j ≤ m
                  · exact HL.out j e
                  · obtain rfl : j = m + 1 := by omega
                    rw [← HYS.out]; exact hy⟩
                clear HK HL HO HD HLB
                go_wp2_with (go_at_call 20; refine C.out.mono ?_; rintro e w2 ⟨u1, rfl, ho, hb⟩; obtain ⟨A3, c3, rfl, hc3, -⟩ := Own.slice ho; have HS2 := Aside0.mk (And.intro ho hb); clear ho hb)
                go_roundw
                case rel => exact ⟨m + 1, _, by go_num, rfl, by omega, ⟨by rw [← HYS.out]; exact HS2.out.1, HS2.out.2⟩, HK2, HL2⟩
                case measure => simp [intOf]; omega
              · clear HK HL HO HD HLB
                go_wp2_with (go_at_call 20; refine C.out.mono ?_; rintro e w2 ⟨u1, rfl, ho, hb⟩; obtain ⟨A3, c3, rfl, hc3, -⟩ := Own.slice ho; have HS2 := Aside0.mk (And.intro ho hb); clear ho hb)
                go_ret
                exact ⟨rfl, HS2.out.2⟩
        · obtain rfl : m = l.length := by omega
          have hok : Ok l := ⟨h200, fun o ho => by
            obtain ⟨j, hj, rfl⟩ := List.mem_iff_getElem.1 ho
            exact HK.out j hj hj, HVL.out, HL.out⟩
          obtain ⟨xs, hxs⟩ : ∃ xs, xs = foldS l := ⟨_, rfl⟩
          have hxl : xs.length ≤ 2000 := by rw [hxs]; have := HL.out l.length (Nat.le_refl _); rwa [List.take_of_length_le (Nat.le_refl _)] at this
          have HS2 := HS
          rw [List.take_of_length_le (Nat.le_refl _), ← hxs] at HS2
          have S := Aside0.mk (slicer_any nb A c l i least wr (Kd.C_below HR.out HS2.out.2) hc hok)
          rw [← hxs] at S
          obtain ⟨A9, c9, rfl, hc9, hci9⟩ := HS2.out.1.slice
          have FX := fun W (hb : Below wr.heap.size wr W) => Aside0.mk (facts_any w.heap.size W (.slice A9 xs.length c9) xs i least (pw_own_below HS2.out.1 hb) hxl)
          obtain ⟨k, hk⟩ := Ev.rounds (ints_ev xs (by omega))
          have TI := fun A0 c0 A1 c1 W (h0 : CI W A0 xs) (h1 : CI W A1 xs) (g0 : xs.length ≤ c0) (g1 : xs.length ≤ c1) => Aside0.mk (spec_TwInts.calls k A0 c0 xs A1 c1 xs true W h0 g0 h1 g1 hk)
          have HFE : Aside0 (∀ v : Value, factsV v xs i least = #[v, .int .i64 xs.length, .bool ((xs.length : Int) == 0), .int .i64 (getv xs 0), .int .i64 (getv xs ((xs.length : Int) - 1)), .int .i64 (getv xs i), .int .i64 (getv xs i), .int .i64 ((firstGe least xs).getD 0), .bool (hasv xs i), .bool (hasv xs i), .bool (firstGe least xs).isSome, .bool (firstGe least xs).isSome]) := ⟨fun v => rfl⟩
          simp only [HFE.out] at S FX
          obtain ⟨be, hbe⟩ : ∃ be, be = ((xs.length : Int) == 0) := ⟨_, rfl⟩
          obtain ⟨a0, ha0⟩ : ∃ a0, a0 = getv xs 0 := ⟨_, rfl⟩
          obtain ⟨al, hal⟩ : ∃ al, al = getv xs ((xs.length : Int) - 1) := ⟨_, rfl⟩
          obtain ⟨ai, hai⟩ : ∃ ai, ai = getv xs i := ⟨_, rfl⟩
          obtain ⟨bi, hbi⟩ : ∃ bi, bi = hasv xs i := ⟨_, rfl⟩
          obtain ⟨bs, hbs⟩ : ∃ bs, bs = (firstGe least xs).isSome := ⟨_, rfl⟩
          obtain ⟨af, haf⟩ : ∃ af, af = (firstGe least xs).getD 0 := ⟨_, rfl⟩
          simp only [← hbe, ← ha0, ← hal, ← hai, ← hbi, ← hbs, ← haf] at S FX
          clear HK HL HS HVL HFE hbe ha0 hal hai hbi hbs haf hok hxs hci9 hk
          go_wp2_with (first
            | (go_at_call 21; with_reducible refine S.out.mono ?_; rintro e w3 ⟨v3, rfl, ho3, hb3⟩; obtain ⟨A3, c3, rfl, hc3, -⟩ := Own.slice ho3; have HO3 := Aside0.mk ho3; have HB3 := Aside0.mk hb3; clear ho3 hb3)
            | (go_at_call 22; with_reducible refine (FX _ HB3.out).out.mono ?_; rintro e w4 ⟨rfl, hb4⟩; have HB4 := Aside0.mk hb4; clear hb4; have HC3 := Aside0.mk (own_ci (pw_own_below HO3.out HB4.out)); have HC9 := Aside0.mk (own_ci (pw_own_below (pw_own_below HS2.out.1 HB3.out) HB4.out)))
            | (go_at_call 23; with_reducible refine (TI A3 c3 A9 c9 _ (Kd.C_alloc (Kd.C_alloc HC3.out _) _) (Kd.C_alloc (Kd.C_alloc HC9.out _) _) hc3 hc9).out.mono ?_; rintro e w5 ⟨rfl, ⟨nd, rfl⟩⟩))
          go_ret
          have hall := step_below (step_below HS2.out.2 HS2.out.2.size HB3.out) (Nat.le_trans HS2.out.2.size HB3.out.size) HB4.out
          have hsz := hall.size
          exact ⟨rfl, pw_below_drewN ((hall.alloc hsz _).alloc (by rw [World.size_alloc]; omega) _) nd⟩
    · clear HFIT
      go_enter Try.func7, Try.ntmps7
      go_wp2_with (go_at_call 19; refine HF.out.mono ?_; rintro e w1 ⟨rfl, hb⟩; have HB := Aside0.mk hb; clear hb)
      go_ret
      exact ⟨rfl, HB.out⟩
end Go.Proofs.Ytapbnbinoakbhaa.SlcZ
