/-
  Proved: the walk of the law FnCacheLatest. Conditions: those of the given statement alone.
-/
import Derived.Test.YtphnnbbgcnilgaaCacP
import Derived.Laws.CopyOwn
namespace Go.Proofs.Ytphnnbbgcnilgaa.CacL
open Go Go.RowKit Go.Proofs.YtphnnbbgcnilgaaW.PrintWords Go.Proofs.Ytphnnbbgcnilgaa.Common Go.Proofs.Ytphnnbbgcnilgaa.CacS Go.Proofs.Ytphnnbbgcnilgaa.CacU Go.Proofs.Ytphnnbbgcnilgaa.CacV Go.Proofs.Ytphnnbbgcnilgaa.CacW Go.Proofs.Ytphnnbbgcnilgaa.CacX Go.Proofs.Ytphnnbbgcnilgaa.CacP Go.Proofs.Ytphnnbbgcnilgaa.GFnCachePurge
set_option linter.unusedVariables false
set_option linter.unusedSimpArgs false
set_option maxRecDepth 1000000
theorem cell_int {k : IntKind} {w : World} {A : Option Addr} {n : Nat} {xs : List Int} (h : Kd.C (Kd.int k) w A n xs) (q : Nat) (h1 : q < n) : ∃ ad, A = some ad ∧ w.cell? (ad.add q) = some (.int k (xs.getD q 0)) := by
  obtain ⟨ad, c1, e, _, hK, hc⟩ := Kd.C_get h (0 : Int) (q : Int) (by omega) (by omega)
  have hK2 : c1 = [.int k (xs.getD (q : Int).toNat 0)] := hK
  subst hK2
  have h1 := hc 0 _ rfl
  rw [Int.toNat_natCast, show (Kd.int k).sz = 1 from rfl, Nat.mul_one, Nat.add_zero] at h1
  exact ⟨ad, e, h1⟩
set_option maxHeartbeats 1000000 in
theorem among_c (l : List Int) (a : Int) (hl : l.length ≤ 1000000) {A : Option Addr} {c : Nat} {w : World} (hC : Kd.C (Kd.int .i64) w A l.length l) :
    Calls Try.prog 14 #[.slice A l.length c, .int .i64 a] w fun e w' => e = .returned (.bool (decide (a ∈ l))) ∧ w' = w := by
  have HC : ∀ q : Nat, q < l.length → Aside0 (∃ ad, A = some ad ∧ w.cell? (ad.add q) = some (.int .i64 (l.getD q 0))) := fun q hq => ⟨cell_int hC q hq⟩
  clear hC
  go_enter Try.func14, Try.ntmps14
  go_wp2
  go_loopw [5] (fun i wr => ∃ (q : Nat), Value.int .i64 (q : Int) = i ∧ q ≤ l.length ∧ Aside0 (∀ x ∈ l.take q, x ≠ a) ∧ wr = w) (fun i _ => l.length - (intOf i).toNat)
  case atStart => exact ⟨0, rfl, by omega, ⟨by simp⟩, rfl⟩
  case round =>
    obtain ⟨q, rfl, hq, HN, rfl⟩ := hrel
    by_cases hlt : q < l.length
    · obtain ⟨ad, rfl, hx⟩ := (HC q hlt).out
      obtain ⟨y, hy⟩ : ∃ y, y = l.getD q 0 := ⟨_, rfl⟩
      rw [← hy] at hx
      have HY : Aside0 (y = l[q]) := ⟨by rw [hy, List.getD_eq_getElem?_getD, List.getElem?_eq_getElem hlt]; rfl⟩
      clear hy HC
      by_cases he : y = a
      · have hd : (y == a) = true := by simpa using he
        have HIN : Aside0 (decide (a ∈ l) = true) := ⟨decide_eq_true (by rw [← he, HY.out]; exact List.getElem_mem _)⟩
        clear he HY
        go_wp2
        go_ret
        exact ⟨by rw [HIN.out]; rfl, rfl⟩
      · have hd : (y == a) = false := by simpa using he
        have HE := Aside0.mk he
        clear he
        go_wp2
        go_roundw
        case rel =>
          refine ⟨q + 1, by go_num, by omega, ⟨fun x hx => ?_⟩, trivial⟩
          rw [List.take_succ_eq_append_getElem hlt] at hx
          rcases List.mem_append.1 hx with hx | hx
          · exact HN.out x hx
          · obtain rfl := List.mem_singleton.1 hx
            rw [← HY.out]
            exact HE.out
        case measure => simp [intOf]; omega
    · obtain rfl : q = l.length := by omega
      have hin : decide (a ∈ l) = false := decide_eq_false (fun h => HN.out a (by rwa [List.take_length]) rfl)
      have HIN := Aside0.mk hin
      clear hin HC
      go_wp2
      go_ret
      exact ⟨by rw [HIN.out]; rfl, rfl⟩
theorem at42 {w : World} {A : Option Addr} {n : Nat} {xs : List S42} (h : Kd.C k42 w A n xs) (t : Nat) (h1 : t < n) : ∃ ad A5 c5, A = some ad ∧ w.cell? (ad.add (t * 6)) = some (.bool (xs.getD t ⟨false, 0, 0, 0, false, []⟩).f0) ∧ w.cell? ⟨(ad.add (t * 6)).block, (ad.add (t * 6)).off + 1, none⟩ = some (.int .i64 (xs.getD t ⟨false, 0, 0, 0, false, []⟩).f1) ∧ w.cell? ⟨(ad.add (t * 6)).block, (ad.add (t * 6)).off + 2, none⟩ = some (.int .i64 (xs.getD t ⟨false, 0, 0, 0, false, []⟩).f2) ∧ w.cell? ⟨(ad.add (t * 6)).block, (ad.add (t * 6)).off + 3, none⟩ = some (.float .f64 (xs.getD t ⟨false, 0, 0, 0, false, []⟩).f3) ∧ w.cell? ⟨(ad.add (t * 6)).block, (ad.add (t * 6)).off + 4, none⟩ = some (.bool (xs.getD t ⟨false, 0, 0, 0, false, []⟩).f4) ∧ w.cell? ⟨(ad.add (t * 6)).block, (ad.add (t * 6)).off + 5, none⟩ = some (.slice A5 (xs.getD t ⟨false, 0, 0, 0, false, []⟩).f5.length c5) := by
  obtain ⟨ad, c, e, _, hK, hc0⟩ := Kd.C_get h ⟨false, 0, 0, 0, false, []⟩ (t : Int) (by omega) (by omega)
  rw [Int.toNat_natCast] at hK hc0
  obtain ⟨A5, c5, rfl, _, _⟩ := k42_open hK
  have hc : ∀ j u, _ → w.cell? (ad.add (t * 6 + j)) = some u := hc0
  refine ⟨ad, A5, c5, e, hc 0 _ rfl, ?_, ?_, ?_, ?_, ?_⟩
  · rw [← add_field _ _ 1 (by omega)]; exact hc 1 _ rfl
  · rw [← add_field _ _ 2 (by omega)]; exact hc 2 _ rfl
  · rw [← add_field _ _ 3 (by omega)]; exact hc 3 _ rfl
  · rw [← add_field _ _ 4 (by omega)]; exact hc 4 _ rfl
  · rw [← add_field _ _ 5 (by omega)]; exact hc 5 _ rfl
theorem back_len (keys : List Int) (q i : Nat) : (back keys q i).length ≤ q := by
  unfold back
  have h : ∀ l : List KV, (ded l).length ≤ l.length := by
    intro l
    induction l with
    | nil => exact Nat.le_refl _
    | cons x t ih =>
      rw [ded, List.length_cons, List.length_cons]
      have := List.length_filter_le (fun y : KV => decide (y.1 ≠ x.1)) (ded t)
      unfold without
      omega
  refine Nat.le_trans (h _) ?_
  rw [List.length_reverse, List.length_drop, kv_len]
  omega
theorem mem_has {l : List KV} {k : Int} : hasK l k = true ↔ k ∈ l.map (·.1) := by
  rw [hasK_iff, List.mem_map]
theorem info3 : (Try.prog.info? 3).map (fun i => (i.zero, i.size, i.bytes)) = some (some (.int .i64 0), (Kd.int .i64).sz, 8) := by kernel_rfl
theorem row_box {w3 w5 : World} {B : Nat} {v : Value} {xs : List Int} {go : Nat} (h : Kd.R (Kd.int .i64) 3 w3 B (fun _ => True) v xs) (hgo : go = w3.heap.size) (hb : Below w3.heap.size w3 w5) (cs : Array Value) : Kd.R (Kd.int .i64) 3 (w5.setRow go cs) B (fun _ => True) v xs :=
  Kd.R_step h (fun k _ hk => (setRow_other w5 go k cs (by omega)).trans (hb.block k hk))
theorem byte_wf {x : Int} (h : (Lit.int .u8 x).wf = true) : 0 ≤ x ∧ x < 256 := by
  have h2 : IntKind.u8.min ≤ x ∧ x ≤ IntKind.u8.max := by simpa [Lit.wf] using h
  have e1 : IntKind.u8.min = 0 := by decide
  have e2 : IntKind.u8.max = 255 := by decide
  omega
theorem info33 : (Try.prog.info? 33).map (fun i => (i.zero, i.size, i.bytes)) = some (some (.agg #[.int .i64 0, .int .i64 0, .int .i64 0]), k33.sz, 24) := by kernel_rfl
set_option maxHeartbeats 2000000 in
theorem law (w : World) (a0 : Int) (w0 : (Lit.int .u8 a0).wf = true) (A1 : Option Addr) (c1 : Nat) (l1 : List Int) (hc1 : l1.length ≤ c1) (hr1 : Kd.C (Kd.int .u8) w A1 l1.length l1) (hg1 : ∀ x ∈ l1, (Lit.int .u8 x).wf = true) :
    Calls Try.prog 4 #[.int .u8 a0, .slice A1 l1.length c1] w fun e w' => e = .returned (.bool true) ∧ Below w.heap.size w w' := by
  have HC : ∀ q : Nat, q < l1.length → Aside0 (∃ ad, A1 = some ad ∧ w.cell? (ad.add q) = some (.int .u8 (l1.getD q 0))) := fun q hq => ⟨cell_int hr1 q hq⟩
  have h0 : 0 ≤ a0 ∧ a0 < 256 := byte_wf w0
  have HG : Aside0 (∀ x ∈ l1, 0 ≤ x ∧ x < 256) := ⟨fun x hx => byte_wf (hg1 x hx)⟩
  obtain ⟨h00, h01⟩ := h0
  clear hr1 hg1
  by_cases hbig : 2147483647 < l1.length
  · have hd : decide ((l1.length : Int) > 2147483647) = true := decide_eq_true (by omega)
    go_enter Try.func4, Try.ntmps4
    go_wp2
    go_ret
    exact ⟨rfl, Below.refl _ _⟩
  have hd : decide ((l1.length : Int) > 2147483647) = false := decide_eq_false (by omega)
  by_cases hbig2 : 300 < l1.length
  · have hd2 : decide ((l1.length : Int) > 300) = true := decide_eq_true (by omega)
    go_enter Try.func4, Try.ntmps4
    go_wp2
    go_ret
    exact ⟨rfl, Below.refl _ _⟩
  have hd2 : decide ((l1.length : Int) > 300) = false := decide_eq_false (by omega)
  obtain ⟨N, hN⟩ : ∃ N : Nat, (1 + a0 % 40 : Int) = (N : Int) := ⟨(1 + a0 % 40).toNat, by omega⟩
  have hN0 : 0 < N := by omega
  have hN1 : N ≤ 40 := by omega
  have HN0 : Aside0 (0 < (N : Int)) := ⟨by omega⟩
  have HN1 : Aside0 ((N : Int) ≤ 40) := ⟨by omega⟩
  go_enter Try.func4, Try.ntmps4
  go_wp2
  clear hN hd hd2
  go_loopw [6, 7] (fun v i wr => ∃ (q : Nat), Value.int .i64 (q : Int) = i ∧ q ≤ l1.length ∧ Aside0 (k33.R 33 wr w.heap.size (fun _ => True) v (adds l1 q)) ∧ Aside0 (Below w.heap.size w wr)) (fun _ i _ => l1.length - (intOf i).toNat)
  case atStart => exact ⟨0, rfl, by omega, ⟨Kd.R_nil _ _ _ _ _⟩, ⟨Below.refl _ _⟩⟩
  case round =>
    obtain ⟨q, rfl, hq, HR, HB⟩ := hrel
    by_cases hlt : q < l1.length
    · obtain ⟨ad, rfl, hx⟩ := (HC q hlt).out
      replace hx := (HB.out.cell (World.block_lt_of_cell? w _ hx)).trans hx
      have hy := HG.out l1[q] (List.getElem_mem hlt)
      obtain ⟨y, hye⟩ : ∃ y, y = l1.getD q 0 := ⟨_, rfl⟩
      have hye2 : l1[q] = y := by rw [hye, List.getD_eq_getElem?_getD, List.getElem?_eq_getElem hlt]; rfl
      rw [hye2] at hy
      rw [← hye] at hx
      have HY := Aside0.mk hye
      obtain ⟨hy0, hy1⟩ := hy
      clear HC hye hye2
      go_wp2_with ((with_reducible refine gate_builtin (b := .append) (xs := #[.tmp 32, .tmp 40]) rfl ?_); at_builtin; refine Kd.R_append k33 (w0 := w) w.heap.size rfl (.tmp 32) (.tmp 40) 31 33 (.agg #[.int .i64 0, .int .i64 0, .int .i64 0]) 24 rfl Try.underlying31 info33 rfl (by decide) (by omega) u6 (adds l1 q) (⟨0, y, (q : Int)⟩ : S33) [.int .i64 0, .int .i64 y, .int .i64 (q : Int)] (fun _ => True) (fun _ => False) rfl rfl ?aP (fun _ hk => hk.elim) ?aF ?aO ?aB ?aS ?aL ?_; (case aP => exact k33_mkM _ _ _ _); (case aF => exact (fun _ _ => trivial)); (case aO => exact HR.out); (case aB => exact HB.out); (case aS => exact HB.out.size); (case aL => rw [adds_len]; omega); intro v2 w21 ho hb hg hat; have HO := Aside0.mk ho; have HB2 := Aside0.mk hb; clear ho hb hg hat)
      go_roundw
      case rel =>
        refine ⟨q + 1, by go_num, by omega, ?_, HB2⟩
        rw [adds_succ, ← HY.out]
        exact HO
      case measure => simp [intOf]; omega
    · obtain rfl : q = l1.length := by omega
      go_wp2
      go_loopw [6, 8] (fun v i wr => ∃ (q : Nat), Value.int .i64 (q : Int) = i ∧ q ≤ 256 ∧ Aside0 (k33.R 33 wr w.heap.size (fun _ => True) v (adds l1 l1.length ++ gets q)) ∧ Aside0 (Below w.heap.size w wr)) (fun _ i _ => 256 - (intOf i).toNat)
      case atStart => exact ⟨0, rfl, by omega, ⟨by rw [show gets 0 = [] from rfl, List.append_nil]; exact HR.out⟩, HB⟩
      case round =>
        clear HR HB
        obtain ⟨q, rfl, hq, HR, HB⟩ := hrel
        by_cases hlt : q < 256
        · have hlen : (adds l1 l1.length ++ gets q).length ≤ 1000 := by rw [List.length_append, adds_len, gets_len]; omega
          have hdq : decide ((q : Int) < 256) = true := decide_eq_true (by omega)
          clear HC
          go_wp2_with ((with_reducible refine gate_builtin (b := .append) (xs := #[.tmp 46, .tmp 49]) rfl ?_); at_builtin; refine Kd.R_append k33 (w0 := w) w.heap.size rfl (.tmp 46) (.tmp 49) 31 33 (.agg #[.int .i64 0, .int .i64 0, .int .i64 0]) 24 rfl Try.underlying31 info33 rfl (by decide) (by omega) u6 (adds l1 l1.length ++ gets q) (⟨1, (q : Int), 0⟩ : S33) [.int .i64 1, .int .i64 (q : Int), .int .i64 0] (fun _ => True) (fun _ => False) rfl rfl ?aP (fun _ hk => hk.elim) ?aF ?aO ?aB ?aS ?aL ?_; (case aP => exact k33_mkM _ _ _ _); (case aF => exact (fun _ _ => trivial)); (case aO => exact HR.out); (case aB => exact HB.out); (case aS => exact HB.out.size); (case aL => omega); intro v2 w21 ho hb hg hat; have HO := Aside0.mk ho; have HB2 := Aside0.mk hb; clear ho hb hg hat)
          go_roundw
          case rel =>
            refine ⟨q + 1, by go_num, by omega, ?_, HB2⟩
            rw [gets_succ, ← List.append_assoc]
            exact HO
          case measure => simp [intOf]; omega
        · obtain rfl : q = 256 := by omega
          have hdq : decide ((256 : Int) < 256) = false := by decide
          obtain ⟨A, c, rfl, hlc, hCC⟩ := Kd.R_reads HR.out
          have hSl : Aside0 ((adds l1 l1.length ++ gets 256).length = l1.length + 256) := ⟨script_len l1⟩
          have HCC := Aside0.mk hCC
          have HSS : Aside0 (adds l1 l1.length ++ gets 256 = script l1) := ⟨rfl⟩
          generalize adds l1 l1.length ++ gets 256 = S at *
          obtain ⟨O, hO⟩ : ∃ O, O = outsF N l1 := ⟨_, rfl⟩
          have hOl : O.length = S.length := by rw [hO, outs_len, hSl.out]
          have hS1 : S.length ≤ 1000 := by rw [hSl.out]; omega
          have HO := Aside0.mk hO
          clear hCC hO HR
          go_wp2_with (go_at_call 13; refine (run_c (n := (N : Int)) HN0.out HN1.out S (by rw [HSS.out]; exact script_ok l1 HG.out) hS1 A c wr HCC.out).mono ?_; rintro e w2 ⟨v, rfl, h1, h2⟩; (have h3 : k42.R 42 w2 wr.heap.size (fun _ => True) v O := by rw [HO.out]; unfold outsF; rw [← HSS.out]; exact h1); obtain ⟨A2, c2, rfl, _, h4⟩ := Kd.R_reads h3; have H4 := Aside0.mk h4; have HB3 := Aside0.mk (HB.out.trans (h2.mono HB.out.size)); clear h1 h2 h3 h4)
          clear HCC HSS HB hlc
          have HL := Aside0.mk (fun (t : Nat) (ht : t < O.length) => at42 H4.out t ht)
          go_loopw [11, 12] (fun v i wr => ∃ (q : Nat), Value.int .i64 ((q : Int) - 1) = i ∧ q ≤ l1.length ∧ Aside0 (Kd.R (Kd.int .i64) 3 wr w2.heap.size (fun _ => True) v ((back l1 l1.length q).map (·.1))) ∧ Aside0 (Below w2.heap.size w2 wr)) (fun _ i _ => (intOf i + 1).toNat)
          case atStart => exact ⟨l1.length, rfl, by omega, ⟨by rw [back_end]; exact Kd.R_nil _ _ _ _ _⟩, ⟨Below.refl _ _⟩⟩
          case round =>
            obtain ⟨q, rfl, hq, HR, HB4⟩ := hrel
            have hbl : (back l1 l1.length q).length ≤ l1.length := back_len _ _ _
            by_cases hq0 : q = 0
            · subst hq0
              rw [show (((0 : Nat) : Int) - 1) = -1 from rfl]
              have hdn : decide ((-1 : Int) ≥ 0) = false := by decide
              obtain ⟨L, hL⟩ : ∃ L, L = (back l1 l1.length 0).map (·.1) := ⟨_, rfl⟩
              have HR2 := HR.out
              rw [← hL] at HR2
              obtain ⟨A3, c3, rfl, hl3, hC3⟩ := Kd.R_reads HR2
              have hL6 : L.length ≤ 1000000 := by rw [hL, List.length_map]; omega
              have HLB := Aside0.mk hL
              have HC3 := Aside0.mk hC3
              have HBD := Aside0.mk (HB3.out.trans (HB4.out.mono HB3.out.size))
              clear hL HR2 HR hC3 hbl
              go_wp2
              go_loopw [15] (fun i W => ∃ (q : Nat), Value.int .i64 (q : Int) = i ∧ q ≤ 256 ∧ W = wr) (fun i _ => 256 - (intOf i).toNat)
              case atStart => exact ⟨0, rfl, by omega, rfl⟩
              case round =>
                obtain ⟨k, rfl, hk, rfl⟩ := hrel
                by_cases hk2 : k < 256
                · have hdq2 : decide ((k : Int) < 256) = true := decide_eq_true (by omega)
                  by_cases hin : (k : Int) ∈ L
                  · have HIN : Aside0 (decide ((k : Int) ∈ L) = true) := ⟨decide_eq_true hin⟩
                    clear HC hin
                    go_wp2_with (go_at_call 14; refine (among_c L (k : Int) hL6 HC3.out).mono ?_; rintro e w4 ⟨he, rfl⟩; rw [HIN.out] at he; subst he)
                    go_roundw
                    case rel => exact ⟨k + 1, by go_num, by omega, trivial⟩
                    case measure => simp [intOf]; omega
                  · have HIN : Aside0 (decide ((k : Int) ∈ L) = false) := ⟨decide_eq_false hin⟩
                    have htl : l1.length + k < O.length := by rw [hOl, hSl.out]; omega
                    obtain ⟨ad2, A5, c5, rfl, e0, _⟩ := HL.out (l1.length + k) htl
                    have HOA := outs_at N hN0 l1 k hk2
                    rw [← HO.out] at HOA
                    have hno : hasK ((back l1 l1.length 0).take N) (k : Int) = false := hasK_take (by
                      cases hh : hasK (back l1 l1.length 0) (k : Int) with
                      | false => rfl
                      | true => exact absurd (mem_has.1 hh) (by rw [← HLB.out]; exact hin))
                    rw [HOA, ← hasK_fnd, hno] at e0
                    dsimp only at e0
                    obtain ⟨t, ht⟩ : ∃ t : Nat, t = l1.length + k := ⟨_, rfl⟩
                    have hti : (l1.length : Int) + (k : Int) = (t : Int) := by omega
                    have htO : t < O.length := by omega
                    have htO2 : (t : Int) < (O.length : Int) := by omega
                    rw [← ht] at e0
                    replace e0 := (HB4.out.cell (World.block_lt_of_cell? w2 _ e0)).trans e0
                    clear HC hin HOA hno ht htl HL
                    go_wp2_with (go_at_call 14; refine (among_c L (k : Int) hL6 HC3.out).mono ?_; rintro e w4 ⟨he, rfl⟩; rw [HIN.out] at he; subst he)
                    go_roundw
                    case rel => exact ⟨k + 1, by go_num, by omega, trivial⟩
                    case measure => simp [intOf]; omega
                · obtain rfl : k = 256 := by omega
                  have hdq2 : decide ((256 : Int) < 256) = false := by decide
                  clear HC
                  go_wp2
                  go_ret
                  exact ⟨rfl, HBD.out⟩
            · obtain ⟨j, rfl⟩ : ∃ j, q = j + 1 := ⟨q - 1, by omega⟩
              have ej : (((j + 1 : Nat) : Int) - 1) = (j : Int) := by omega
              rw [ej]
              clear ej hq0
              have hlt : j < l1.length := by omega
              obtain ⟨ad, rfl, hx⟩ := (HC j hlt).out
              replace hx := (HB4.out.cell (World.block_lt_of_cell? w2 _ ((HB3.out.cell (World.block_lt_of_cell? w _ hx)).trans hx))).trans ((HB3.out.cell (World.block_lt_of_cell? w _ hx)).trans hx)
              have hy := HG.out l1[j] (List.getElem_mem hlt)
              have HST := Aside0.mk (back_step l1 l1.length j hlt)
              have HFB := Aside0.mk (fnd_back N l1 l1.length j hlt)
              have hye2 : l1[j] = l1.getD j 0 := by rw [List.getD_eq_getElem?_getD, List.getElem?_eq_getElem hlt]; rfl
              rw [hye2] at hy
              clear hye2
              generalize l1.getD j 0 = y at *
              obtain ⟨k, rfl⟩ : ∃ k : Nat, y = (k : Int) := ⟨y.toNat, by omega⟩
              obtain ⟨hy0, hy1⟩ := hy
              have hk : k < 256 := by omega
              have HOA := Aside0.mk (outs_at N hN0 l1 k hk)
              rw [← HO.out] at HOA
              generalize back l1 l1.length (j + 1) = B at *
              obtain ⟨L, hL⟩ : ∃ L, L = B.map (·.1) := ⟨_, rfl⟩
              have HR2 := HR.out
              rw [← hL] at HR2
              obtain ⟨A3, c3, rfl, hl3, hC3⟩ := Kd.R_reads HR2
              have HR3 := Aside0.mk HR2
              have hL6 : L.length ≤ 1000000 := by rw [hL, List.length_map]; omega
              have hLB : L.length = B.length := by rw [hL, List.length_map]
              have HLB := Aside0.mk hL
              clear hL HR2
              have HC3 := Aside0.mk hC3
              clear HC hC3 HR
              by_cases hin : hasK B (k : Int) = true
              · have HIN : Aside0 (decide ((k : Int) ∈ L) = true) := ⟨decide_eq_true (by rw [HLB.out]; exact mem_has.1 hin)⟩
                have HS2 := HST.out
                rw [if_pos hin] at HS2
                have HS3 := Aside0.mk HS2
                clear HS2 hin hLB
                go_wp2_with (go_at_call 14; refine (among_c L (k : Int) hL6 HC3.out).mono ?_; rintro e w4 ⟨he, rfl⟩; rw [HIN.out] at he; subst he)
                go_roundw
                case rel => exact ⟨j, rfl, by omega, by rw [HS3.out, ← HLB.out]; exact HR3, HB4⟩
                case measure => first | (simp [intOf]; done) | (simp [intOf]; omega)
              · have HIN : Aside0 (decide ((k : Int) ∈ L) = false) := ⟨decide_eq_false (fun h => hin (mem_has.2 (by rw [← HLB.out]; exact h)))⟩
                have HS2 := HST.out
                rw [if_neg hin] at HS2
                have HF2 := HFB.out hin
                have HS3 := Aside0.mk HS2
                have htl : l1.length + k < O.length := by rw [hOl, hSl.out]; omega
                obtain ⟨ad2, A5, c5, rfl, e0, e1, e2, e3, e4, e5⟩ := HL.out (l1.length + k) htl
                rw [HOA.out, HF2] at e0 e1 e2 e3 e4 e5
                obtain ⟨t, ht⟩ : ∃ t : Nat, t = l1.length + k := ⟨_, rfl⟩
                have hti : (l1.length : Int) + (k : Int) = (t : Int) := by omega
                have htO : t < O.length := by omega
                have htO2 : (t : Int) < (O.length : Int) := by omega
                rw [← ht] at e0 e1 e2 e3 e4 e5
                have HB6 : ∀ w3 : World, Below w2.heap.size w2 w3 → w3.cell? (ad2.add (t * 6)) = w2.cell? (ad2.add (t * 6)) := fun w3 hb => hb.cell (World.block_lt_of_cell? w2 (ad2.add (t * 6)) e0)
                have HB6b : ∀ w3 : World, Below w2.heap.size w2 w3 → ∀ j, w3.cell? ⟨(ad2.add (t * 6)).block, (ad2.add (t * 6)).off + j, none⟩ = w2.cell? ⟨(ad2.add (t * 6)).block, (ad2.add (t * 6)).off + j, none⟩ := fun w3 hb j => hb.cell (World.block_lt_of_cell? w2 (ad2.add (t * 6)) e0)
                have hBl : (back l1 l1.length j).length = B.length + 1 := by rw [HS2]; simp
                have hBl2 := back_len l1 l1.length j
                clear HS2 hin ht HFB HOA HL htl
                by_cases hN2 : B.length < N
                · rw [if_pos hN2] at HF2 e0 e1 e2 e3 e4 e5
                  dsimp only [Option.isSome_some, Option.map_some, Option.getD_some, List.length_nil] at e0 e1 e2 e3 e4 e5
                  have hdl : decide ((L.length : Int) + 1 ≤ (N : Int)) = true := decide_eq_true (by omega)
                  clear HF2 hLB hBl hN2
                  go_wp2_with (first
                    | (go_at_call 14; refine (among_c L (k : Int) hL6 HC3.out).mono ?_; rintro e w4 ⟨he, rfl⟩; rw [HIN.out] at he; subst he)
                    | ((with_reducible refine gate_builtin (b := .append) (xs := #[.tmp 82, .tmp 84]) rfl ?_); at_builtin; refine Kd.R_append (Kd.int .i64) (w0 := w2) w2.heap.size rfl (.tmp 82) (.tmp 84) 37 3 (.int .i64 0) 8 rfl Try.underlying37 info3 rfl (by decide) (by omega) (.slice A3 L.length c3) L (k : Int) [.int .i64 (k : Int)] (fun _ => True) (fun _ => False) rfl rfl ?aP (fun _ hk => hk.elim) ?aF ?aO ?aB ?aS ?aL ?_; (case aP => exact rfl); (case aF => exact (fun _ _ => trivial)); (case aO => exact HR3.out); (case aB => exact HB4.out); (case aS => exact HB4.out.size); (case aL => omega); intro v2 w3 ho hb hg hat; have HO3 := Aside0.mk ho; have HB5 := Aside0.mk hb; clear ho hb hg hat; obtain ⟨A6, c6, rfl⟩ := Kd.R_slice HO3.out; have g0 : w3.cell? (ad2.add (t * 6)) = some (.bool true) := (HB6 w3 HB5.out).trans e0; have g1 : w3.cell? ⟨(ad2.add (t * 6)).block, (ad2.add (t * 6)).off + 1, none⟩ = some (.int .i64 0) := (HB6b w3 HB5.out 1).trans e1; have g2 : w3.cell? ⟨(ad2.add (t * 6)).block, (ad2.add (t * 6)).off + 2, none⟩ = some (.int .i64 (j : Int)) := (HB6b w3 HB5.out 2).trans e2; have g3 : w3.cell? ⟨(ad2.add (t * 6)).block, (ad2.add (t * 6)).off + 3, none⟩ = some (.float .f64 0) := (HB6b w3 HB5.out 3).trans e3; have g4 : w3.cell? ⟨(ad2.add (t * 6)).block, (ad2.add (t * 6)).off + 4, none⟩ = some (.bool false) := (HB6b w3 HB5.out 4).trans e4; have g5 : w3.cell? ⟨(ad2.add (t * 6)).block, (ad2.add (t * 6)).off + 5, none⟩ = some (.slice A5 0 c5) := (HB6b w3 HB5.out 5).trans e5; clear HB6 HB6b e0 e1 e2 e3 e4 e5)
                    | ((with_reducible refine gate_dst (N := 14) rfl ?_); (try (refine gate_guard (by rfl) ?_; dsimp only)); refine box_event ?hg (N := 14) ?hd (cs := #[.bool false, .int .i64 0, .int .i64 0, .float .f64 0, .bool false, .slice none 0 0]) (t := 42) ?hr ?_; (case hd => rfl); (case hg => rfl); (case hr => first | (go_simp; done) | (go_simp; rfl)); intro go hgo w5 hb1 hB1; have X1 := Aside0.mk hb1; have X2 := Aside0.mk hB1; have X3 := Aside0.mk hgo; (have o0 : w5.cell? (ad2.add (t * 6)) = w3.cell? (ad2.add (t * 6)) := hB1.cell (World.block_lt_of_cell? w3 (ad2.add (t * 6)) g0)); (have ob : ∀ j, w5.cell? ⟨(ad2.add (t * 6)).block, (ad2.add (t * 6)).off + j, none⟩ = w3.cell? ⟨(ad2.add (t * 6)).block, (ad2.add (t * 6)).off + j, none⟩ := fun j => hB1.cell (World.block_lt_of_cell? w3 (ad2.add (t * 6)) g0)); clear hgo hb1 hB1 o0 ob)
                    | ((with_reducible refine gate_store (t := 42) (p := 14) rfl ?_); refine row_event (ty := 42) (p := 14) (v := ?vo_14) ?hg ?ho ?hn go #[.bool true, .int .i64 0, .int .i64 (j : Int), .float .f64 0, .bool false, .slice A5 0 c5] ?hx ?hy 42 #[.bool false, .int .i64 0, .int .i64 0, .float .f64 0, .bool false, .slice none 0 0] ?hh ?hi ?hs ?h1 ?_; (case ho => rfl); (case hg => rfl); (case hn => rfl); (case hx => rfl); (case hy => rfl); (case hi => kernel_rfl); (case hs => rfl); (case h1 => first | kernel_rfl | (simp [Value.oneCell']; done)); (case hh => exact X1.out); intro w6 hw; have r0 : w6.cell? ⟨go, 0, none⟩ = some (.bool true) := (blk_cell (hw ▸ setRow_heap _ _ _ _ _ _ X1.out) 0).trans rfl; have r2 : w6.cell? ⟨go, 2, none⟩ = some (.int .i64 (j : Int)) := (blk_cell (hw ▸ setRow_heap _ _ _ _ _ _ X1.out) 2).trans rfl; have HB7 : Aside0 (Below w2.heap.size w2 w6) := ⟨by rw [hw]; exact below_setRow (HB5.out.trans (X2.out.mono HB5.out.size)) (by rw [X3.out]; exact HB5.out.size) _⟩; have HR7 : Aside0 (Kd.R (Kd.int .i64) 3 w6 w2.heap.size (fun _ => True) (.slice A6 (L ++ [(k : Int)]).length c6) (L ++ [(k : Int)])) := ⟨by rw [hw]; exact row_box HO3.out X3.out X2.out _⟩; clear hw X1 X2 X3))
                  go_roundw
                  case rel => exact ⟨j, rfl, by omega, by (have h7 := HR7.out; rw [show (L ++ [(k : Int)]).length = L.length + 1 by simp] at h7; rw [HS3.out, List.map_append, ← HLB.out]; exact ⟨h7⟩), HB7⟩
                  case measure => first | (simp [intOf]; done) | (simp [intOf]; omega)
                · rw [if_neg hN2] at HF2 e0 e1 e2 e3 e4 e5
                  dsimp only [Option.isSome_none, Option.map_none, Option.getD_none, List.length_nil] at e0 e1 e2 e3 e4 e5
                  have hdl : decide ((L.length : Int) + 1 ≤ (N : Int)) = false := decide_eq_false (by omega)
                  clear HF2 hLB hBl hN2
                  go_wp2_with (first
                    | (go_at_call 14; refine (among_c L (k : Int) hL6 HC3.out).mono ?_; rintro e w4 ⟨he, rfl⟩; rw [HIN.out] at he; subst he)
                    | ((with_reducible refine gate_builtin (b := .append) (xs := #[.tmp 82, .tmp 84]) rfl ?_); at_builtin; refine Kd.R_append (Kd.int .i64) (w0 := w2) w2.heap.size rfl (.tmp 82) (.tmp 84) 37 3 (.int .i64 0) 8 rfl Try.underlying37 info3 rfl (by decide) (by omega) (.slice A3 L.length c3) L (k : Int) [.int .i64 (k : Int)] (fun _ => True) (fun _ => False) rfl rfl ?aP (fun _ hk => hk.elim) ?aF ?aO ?aB ?aS ?aL ?_; (case aP => exact rfl); (case aF => exact (fun _ _ => trivial)); (case aO => exact HR3.out); (case aB => exact HB4.out); (case aS => exact HB4.out.size); (case aL => omega); intro v2 w3 ho hb hg hat; have HO3 := Aside0.mk ho; have HB5 := Aside0.mk hb; clear ho hb hg hat; obtain ⟨A6, c6, rfl⟩ := Kd.R_slice HO3.out; have g0 : w3.cell? (ad2.add (t * 6)) = some (.bool false) := (HB6 w3 HB5.out).trans e0; have g1 : w3.cell? ⟨(ad2.add (t * 6)).block, (ad2.add (t * 6)).off + 1, none⟩ = some (.int .i64 0) := (HB6b w3 HB5.out 1).trans e1; have g2 : w3.cell? ⟨(ad2.add (t * 6)).block, (ad2.add (t * 6)).off + 2, none⟩ = some (.int .i64 0) := (HB6b w3 HB5.out 2).trans e2; have g3 : w3.cell? ⟨(ad2.add (t * 6)).block, (ad2.add (t * 6)).off + 3, none⟩ = some (.float .f64 0) := (HB6b w3 HB5.out 3).trans e3; have g4 : w3.cell? ⟨(ad2.add (t * 6)).block, (ad2.add (t * 6)).off + 4, none⟩ = some (.bool false) := (HB6b w3 HB5.out 4).trans e4; have g5 : w3.cell? ⟨(ad2.add (t * 6)).block, (ad2.add (t * 6)).off + 5, none⟩ = some (.slice A5 0 c5) := (HB6b w3 HB5.out 5).trans e5; clear HB6 HB6b e0 e1 e2 e3 e4 e5)
                    | ((with_reducible refine gate_dst (N := 14) rfl ?_); (try (refine gate_guard (by rfl) ?_; dsimp only)); refine box_event ?hg (N := 14) ?hd (cs := #[.bool false, .int .i64 0, .int .i64 0, .float .f64 0, .bool false, .slice none 0 0]) (t := 42) ?hr ?_; (case hd => rfl); (case hg => rfl); (case hr => first | (go_simp; done) | (go_simp; rfl)); intro go hgo w5 hb1 hB1; have X1 := Aside0.mk hb1; have X2 := Aside0.mk hB1; have X3 := Aside0.mk hgo; (have o0 : w5.cell? (ad2.add (t * 6)) = w3.cell? (ad2.add (t * 6)) := hB1.cell (World.block_lt_of_cell? w3 (ad2.add (t * 6)) g0)); (have ob : ∀ j, w5.cell? ⟨(ad2.add (t * 6)).block, (ad2.add (t * 6)).off + j, none⟩ = w3.cell? ⟨(ad2.add (t * 6)).block, (ad2.add (t * 6)).off + j, none⟩ := fun j => hB1.cell (World.block_lt_of_cell? w3 (ad2.add (t * 6)) g0)); clear hgo hb1 hB1 o0 ob)
                    | ((with_reducible refine gate_store (t := 42) (p := 14) rfl ?_); refine row_event (ty := 42) (p := 14) (v := ?vo_14) ?hg ?ho ?hn go #[.bool false, .int .i64 0, .int .i64 0, .float .f64 0, .bool false, .slice A5 0 c5] ?hx ?hy 42 #[.bool false, .int .i64 0, .int .i64 0, .float .f64 0, .bool false, .slice none 0 0] ?hh ?hi ?hs ?h1 ?_; (case ho => rfl); (case hg => rfl); (case hn => rfl); (case hx => rfl); (case hy => rfl); (case hi => kernel_rfl); (case hs => rfl); (case h1 => first | kernel_rfl | (simp [Value.oneCell']; done)); (case hh => exact X1.out); intro w6 hw; have r0 : w6.cell? ⟨go, 0, none⟩ = some (.bool false) := (blk_cell (hw ▸ setRow_heap _ _ _ _ _ _ X1.out) 0).trans rfl; have r2 : w6.cell? ⟨go, 2, none⟩ = some (.int .i64 0) := (blk_cell (hw ▸ setRow_heap _ _ _ _ _ _ X1.out) 2).trans rfl; have HB7 : Aside0 (Below w2.heap.size w2 w6) := ⟨by rw [hw]; exact below_setRow (HB5.out.trans (X2.out.mono HB5.out.size)) (by rw [X3.out]; exact HB5.out.size) _⟩; have HR7 : Aside0 (Kd.R (Kd.int .i64) 3 w6 w2.heap.size (fun _ => True) (.slice A6 (L ++ [(k : Int)]).length c6) (L ++ [(k : Int)])) := ⟨by rw [hw]; exact row_box HO3.out X3.out X2.out _⟩; clear hw X1 X2 X3))
                  go_roundw
                  case rel => exact ⟨j, rfl, by omega, by (have h7 := HR7.out; rw [show (L ++ [(k : Int)]).length = L.length + 1 by simp] at h7; rw [HS3.out, List.map_append, ← HLB.out]; exact ⟨h7⟩), HB7⟩
                  case measure => first | (simp [intOf]; done) | (simp [intOf]; omega)
end Go.Proofs.Ytphnnbbgcnilgaa.CacL
