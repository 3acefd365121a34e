/-
  Proved: what text returns. Conditions: digits; the point from 1 to 1000, at most 1000 digits behind it.
-/
import Derived.Test.YtgemoagbefdemaaUnG
namespace Go.Proofs.Ytgemoagbefdemaa.UnH
open Go.RowKit Go.Proofs.YtgemoagbefdemaaW.PrintWords Go.Proofs.Ytgemoagbefdemaa.Common Go.Proofs.Ytgemoagbefdemaa.GEU Go.Proofs.Ytgemoagbefdemaa.UnB Go.Proofs.Ytgemoagbefdemaa.UnC Go.Proofs.Ytgemoagbefdemaa.UnE Go.Proofs.Ytgemoagbefdemaa.UnF Go.Proofs.Ytgemoagbefdemaa.UnG
set_option linter.unusedVariables false
set_option linter.unusedSimpArgs false
set_option maxRecDepth 1000000
/-- the digits from i on, n of them, as characters -/
def chs (ds : List Int) (i n : Nat) : List Int := (List.range n).map fun j => 48 + dgt ds (i + j)
def textL (ds : List Int) (dp prec : Nat) : List Int := chs ds 0 dp ++ [46] ++ chs ds dp prec
theorem chs_succ (ds : List Int) (i n : Nat) : chs ds i (n + 1) = chs ds i n ++ [48 + dgt ds (i + n)] := by
  unfold chs
  rw [List.range_succ, List.map_append]
  rfl
theorem chs_len (ds : List Int) (i n : Nat) : (chs ds i n).length = n := by simp [chs]
variable {B g : Nat} {w0 W W1 : World} {v : Value} {ds : List Int}
set_option maxHeartbeats 4000000 in
theorem text_c (dp : Nat) (h : D B w0 g v ds (dp : Int) W) (hd : ∀ d ∈ ds, 0 ≤ d ∧ d ≤ 9) (hdp : 1 ≤ dp ∧ dp ≤ 400) (prec : Nat) (hpr : 1 ≤ prec ∧ prec ≤ 400) :
    Calls Try.prog 24 #[.pointer (some ⟨g, 0, none⟩), .int .i64 (prec : Int)] W fun e w' => e = .returned (.string (strOfNums (textL ds dp prec))) ∧ D B w0 g v ds (dp : Int) w' := by
  have H := Aside0.mk h
  have hB := h.size
  have HD := fun (wr : World) (hb : Below W.heap.size W wr) => Aside0.mk (h.below hB hb)
  have HC := fun (wr : World) (i : Nat) (hi : i ≤ 1000) (hb : Below W.heap.size W wr) => Aside0.mk (digit_c (h.below hB hb) i hi)
  have HX := fun (i : Nat) => dgt_range hd i
  clear h hd
  go_enter Try.func24, Try.ntmps24
  go_wp2
  go_loopg [5, 6] dp (fun gk v5 v6 wr => ∃ (i : Nat) (vs : Value), v6 = .int .i64 (i : Int) ∧ vs = v5 ∧ i + gk = dp ∧ Aside0 (Below W.heap.size W wr) ∧ Aside0 (Kd.R (Kd.int .u8) 5 wr W.heap.size (fun _ => True) vs (chs ds 0 i)))
  case atStart => exact ⟨0, _, rfl, rfl, by omega, ⟨Below.refl _ _⟩, ⟨Kd.R_nil _ _ _ _ _⟩⟩
  case round =>
    obtain ⟨i, vs, rfl, rfl, hig, HB, HO⟩ := hrel
    have HDw := HD wr HB.out
    obtain ⟨h0, h1, f0, f1⟩ := HDw.out.cells
    by_cases hi : i < dp
    · have d1 : decide (i < dp) = true := decide_eq_true hi
      have HCw := HC wr i (by omega) HB.out
      have hxr := HX i
      obtain ⟨x, hxe⟩ : ∃ x, dgt ds i = x := ⟨_, rfl⟩
      have hnx : chs ds 0 (i + 1) = chs ds 0 i ++ [48 + x] := by rw [chs_succ, Nat.zero_add, hxe]
      have HN := Aside0.mk hnx
      rw [hxe] at HCw hxr
      have hw8 : IntKind.u8.wrap (48 + x) = 48 + x := by
        have : IntKind.u8.wrap (48 + x) = (48 + x) % 256 := rfl
        rw [this]
        omega
      have hcl := chs_len ds 0 i
      obtain ⟨os, hos⟩ : ∃ os, os = chs ds 0 i := ⟨_, rfl⟩
      rw [← hos] at HO HN hcl
      have HL := Aside0.mk hcl
      have hwi : IntKind.i64.wrap ((i : Int) + 1) = (i : Int) + 1 := Go.IntWalk.i64_in _ (by omega)
      clear hnx hxe hos hcl HD HC HX
      go_wp2_with (first | (go_at_call 32; refine (HCw.out).mono ?_; rintro e w3 ⟨rfl, rfl⟩) | ((with_reducible refine gate_builtin (b := .append) (xs := #[.tmp 16, .tmp 21]) rfl ?_); at_builtin; refine Kd.R_append (Kd.int .u8) (w0 := W) W.heap.size rfl (.tmp 16) (.tmp 21) 50 5 (.int .u8 0) 1 rfl Try.underlying50 info5 rfl (by decide) (by omega) vs os (48 + x) [.int .u8 (48 + x)] (fun _ => True) (fun _ => False) rfl rfl ?aP (fun _ hk => hk.elim) ?aF ?aO ?aB ?aS ?aL ?_; (case aP => exact rfl); (case aF => exact (fun _ _ => trivial)); (case aO => exact HO.out); (case aB => exact HB.out); (case aS => exact HB.out.size); (case aL => have := HL.out; omega); intro v2 w2 ho hb hg hat; have HO2 := Aside0.mk ho; have HB2 := Aside0.mk hb; clear ho hb hg hat))
      have HN2 := Aside0.mk (show Kd.R (Kd.int .u8) 5 w2 W.heap.size (fun _ => True) v2 (chs ds 0 (i + 1)) by rw [HN.out]; exact HO2.out)
      go_roundg (gk - 1)
      case measure => omega
      case rel => exact ⟨i + 1, v2, by push_cast; rfl, rfl, by omega, HB2, HN2⟩
    · have hie : i = dp := by omega
      subst hie
      have d1 : decide (i < i) = false := decide_eq_false (by omega)
      obtain ⟨A1, c1, rfl⟩ := Kd.R_slice HO.out
      have hcl := chs_len ds 0 i
      obtain ⟨os, hos⟩ : ∃ os, os = chs ds 0 i := ⟨_, rfl⟩
      rw [← hos] at HO hcl
      have HL := Aside0.mk hcl
      have HS := Aside0.mk hos
      rw [← hos]
      have d2 : ((os.length : Int) == 0) = false := by rw [beq_eq_false_iff_ne]; omega
      have d3 : decide ((prec : Int) > 0) = true := decide_eq_true (by omega)
      have d4 : decide (0 < prec) = true := decide_eq_true (by omega)
      have d5 : (os.length == 0) = false := by rw [beq_eq_false_iff_ne]; omega
      have d6 : ¬ os.length = 0 := by omega
      have d7 : ¬ os = [] := fun e => by rw [e] at d6; exact d6 rfl
      clear hos hcl
      go_wp2_with ((with_reducible refine gate_builtin (b := .append) (xs := #[.tmp 31, .tmp 32]) rfl ?_); at_builtin; refine Kd.R_append (Kd.int .u8) (w0 := W) W.heap.size rfl (.tmp 31) (.tmp 32) 50 5 (.int .u8 0) 1 rfl Try.underlying50 info5 rfl (by decide) (by omega) (.slice A1 os.length c1) os 46 [.int .u8 46] (fun _ => True) (fun _ => False) rfl rfl ?aP (fun _ hk => hk.elim) ?aF ?aO ?aB ?aS ?aL ?_; (case aP => exact rfl); (case aF => exact (fun _ _ => trivial)); (case aO => exact HO.out); (case aB => exact HB.out); (case aS => exact HB.out.size); (case aL => have := HL.out; omega); intro v2 w2 ho hb hg hat; have HO2 := Aside0.mk ho; have HB2 := Aside0.mk hb; clear ho hb hg hat)
      have HO3 := Aside0.mk (show Kd.R (Kd.int .u8) 5 w2 W.heap.size (fun _ => True) v2 ((chs ds 0 i ++ [46]) ++ chs ds i 0) by rw [show chs ds i 0 = [] from rfl, List.append_nil, ← HS.out]; exact HO2.out)
      clear d1 d2 d3 d4 d5 d6 d7 HO HB HO2 h0 h1 f0 f1 hi hig HDw HS HL
      obtain ⟨dp, hdpe⟩ : ∃ dp, dp = i := ⟨_, rfl⟩
      rw [← hdpe] at HD HO3 H hdp
      rw [← hdpe]
      have HDP := Aside0.mk hdpe
      clear hdpe
      go_loopg [5, 7] prec (fun gk v5 v7 wr => ∃ (j : Nat) (vs : Value), v7 = .int .i64 (j : Int) ∧ vs = v5 ∧ j + gk = prec ∧ Aside0 (Below W.heap.size W wr) ∧ Aside0 (Kd.R (Kd.int .u8) 5 wr W.heap.size (fun _ => True) vs ((chs ds 0 dp ++ [46]) ++ chs ds dp j)))
      case atStart => exact ⟨0, _, rfl, rfl, by omega, HB2, HO3⟩
      case round =>
        obtain ⟨j, vs, rfl, rfl, hjg, HB, HO⟩ := hrel
        clear HB2 HO3
        have HDw := HD wr HB.out
        obtain ⟨h0, h1, f0, f1⟩ := HDw.out.cells
        by_cases hj : j < prec
        · have d1 : decide (j < prec) = true := decide_eq_true hj
          have HCw := HC wr (dp + j) (by omega) HB.out
          have hxr := HX (dp + j)
          obtain ⟨x, hxe⟩ : ∃ x, dgt ds (dp + j) = x := ⟨_, rfl⟩
          have hnx : (chs ds 0 dp ++ [46]) ++ chs ds dp (j + 1) = ((chs ds 0 dp ++ [46]) ++ chs ds dp j) ++ [48 + x] := by rw [chs_succ, hxe, List.append_assoc (_ ++ [46])]
          have HN := Aside0.mk hnx
          rw [hxe] at HCw hxr
          have hw8 : IntKind.u8.wrap (48 + x) = 48 + x := by
            have : IntKind.u8.wrap (48 + x) = (48 + x) % 256 := rfl
            rw [this]
            omega
          have hcl : ((chs ds 0 dp ++ [46]) ++ chs ds dp j).length = dp + 1 + j := by rw [List.length_append, List.length_append, chs_len, chs_len]; rfl
          obtain ⟨os, hos⟩ : ∃ os, os = (chs ds 0 dp ++ [46]) ++ chs ds dp j := ⟨_, rfl⟩
          rw [← hos] at HO HN hcl
          have HL := Aside0.mk hcl
          have hwi : IntKind.i64.wrap ((j : Int) + 1) = (j : Int) + 1 := Go.IntWalk.i64_in _ (by omega)
          have hwd : IntKind.i64.wrap ((dp : Int) + (j : Int)) = ((dp + j : Nat) : Int) := by rw [Go.IntWalk.i64_in _ (by omega)]; push_cast; rfl
          have hwe : (dp : Int) + (j : Int) = ((dp + j : Nat) : Int) := by push_cast; rfl
          have HJ := Aside0.mk hjg
          obtain ⟨q, hqe⟩ : ∃ q, q = dp + j := ⟨_, rfl⟩
          rw [← hqe] at HCw hwd hwe
          clear hnx hxe hos hcl HD HC HX hqe
          go_wp2_with (first | (go_at_call 32; refine (HCw.out).mono ?_; rintro e w3 ⟨rfl, rfl⟩) | ((with_reducible refine gate_builtin (b := .append) (xs := #[.tmp 39, .tmp 49]) rfl ?_); at_builtin; refine Kd.R_append (Kd.int .u8) (w0 := W) W.heap.size rfl (.tmp 39) (.tmp 49) 50 5 (.int .u8 0) 1 rfl Try.underlying50 info5 rfl (by decide) (by omega) vs os (48 + x) [.int .u8 (48 + x)] (fun _ => True) (fun _ => False) rfl rfl ?aP (fun _ hk => hk.elim) ?aF ?aO ?aB ?aS ?aL ?_; (case aP => exact rfl); (case aF => exact (fun _ _ => trivial)); (case aO => exact HO.out); (case aB => exact HB.out); (case aS => exact HB.out.size); (case aL => have := HL.out; omega); intro v2 w2 ho hb hg hat; have HO2 := Aside0.mk ho; have HB2 := Aside0.mk hb; clear ho hb hg hat))
          have HN2 := Aside0.mk (show Kd.R (Kd.int .u8) 5 w2 W.heap.size (fun _ => True) v2 ((chs ds 0 dp ++ [46]) ++ chs ds dp (j + 1)) by rw [HN.out]; exact HO2.out)
          go_roundg (gk - 1)
          case measure => omega
          case rel => exact ⟨j + 1, v2, by push_cast; rfl, rfl, by omega, HB2, HN2⟩
        · have hje : j = prec := by omega
          subst hje
          have d1 : decide (j < j) = false := decide_eq_false (by omega)
          obtain ⟨A1, c1, rfl⟩ := Kd.R_slice HO.out
          have hcs := Kd.C_string (P := Try.prog) (src := 50) (dst := 9) (c := c1) Try.underlying50 Try.underlying5 Try.underlying9 (Kd.R_reads' HO.out).2.2
          have hts : chs ds 0 dp ++ [46] ++ chs ds dp j = textL ds dp j := rfl
          rw [hts] at hcs HO
          rw [hts]
          obtain ⟨os, hos⟩ : ∃ os, os = textL ds dp j := ⟨_, rfl⟩
          rw [← hos] at hcs HO
          rw [← hos]
          have HOS := Aside0.mk hos
          clear hts HD HC HX hos
          go_wp2
          go_ret
          refine ⟨?_, ?_⟩
          · show Ending.returned (Value.string (strOfNums os)) = _
            rw [HOS.out, HDP.out]
          · rw [← HDP.out]
            exact HDw.out
end Go.Proofs.Ytgemoagbefdemaa.UnH
