/-
  Proved: what (*decimal).half leaves. Conditions: digits, the first one not 0; k from 37 to 52.
-/
import Derived.Test.YtgemoagbefdemaaUnB
import Derived.Laws.Bits64b
namespace Go.Proofs.Ytgemoagbefdemaa.UnC
open Go.RowKit Go.Proofs.YtgemoagbefdemaaW.PrintWords Go.Proofs.Ytgemoagbefdemaa.Common Go.Proofs.Ytgemoagbefdemaa.GEU Go.Proofs.Ytgemoagbefdemaa.UnB
set_option linter.unusedVariables false
set_option linter.unusedSimpArgs false
set_option maxRecDepth 1000000
def dAt (ds : List Int) (i : Nat) : Nat := (ds.getD i 0).toNat
/-- the digits that make the first one -/
def ph1 (k : Nat) (ds : List Int) : Nat → Nat → Nat → Option (Nat × Nat)
  | 0, _, _ => none
  | f + 1, i, n => if n / 2 ^ k ≠ 0 then some (i, n) else ph1 k ds f (i + 1) (n * 10 + dAt ds i)
def ph2 (k : Nat) (ds : List Int) : Nat → Nat → Nat → List Int → Option (List Int)
  | 0, _, _, _ => none
  | f + 1, i, n, out => if i < ds.length ∨ 0 < n then ph2 k ds f (i + 1) (n % 2 ^ k * 10 + dAt ds i) (out ++ [((n / 2 ^ k % 256 : Nat) : Int)]) else some out
theorem dAt_le (ds : List Int) (hd : ∀ d ∈ ds, 0 ≤ d ∧ d ≤ 9) (i : Nat) : dAt ds i ≤ 9 := by
  unfold dAt
  rcases Nat.lt_or_ge i ds.length with h | h
  · rw [List.getD_eq_getElem?_getD, List.getElem?_eq_getElem h]
    have := hd _ (List.getElem_mem h)
    show (ds[i]).toNat ≤ 9
    omega
  · rw [List.getD_eq_getElem?_getD, List.getElem?_eq_none h]
    exact Nat.zero_le _
theorem dAt_int (ds : List Int) (hd : ∀ d ∈ ds, 0 ≤ d ∧ d ≤ 9) (i : Nat) (h : i < ds.length) : rdOf 0 ds (i : Int) = ((dAt ds i : Nat) : Int) := by
  unfold dAt rdOf
  have := hd _ (List.getElem_mem h)
  rw [Int.toNat_natCast, List.getD_eq_getElem?_getD, List.getElem?_eq_getElem h]
  show ds[i] = ((ds[i]).toNat : Int)
  omega
theorem dAt_out (ds : List Int) (i : Nat) (h : ¬ i < ds.length) : dAt ds i = 0 := by
  unfold dAt
  rw [List.getD_eq_getElem?_getD, List.getElem?_eq_none (by omega)]
  rfl
theorem u64w (n : Int) (h0 : 0 ≤ n) (h1 : n < 18446744073709551616) : IntKind.u64.wrap n = n := by
  have : IntKind.u64.wrap n = n % 18446744073709551616 := rfl
  rw [this]
  omega
theorem maskF (n k : Nat) (hn : n < 18446744073709551616) (hk : k ≤ 52) : bits BinOp.and IntKind.u64 (n : Int) (IntKind.u64.wrap (IntKind.u64.wrap (2 ^ k) - 1)) = ((n % 2 ^ k : Nat) : Int) := by
  have hP : 2 ^ k ≤ 4503599627370496 := Nat.pow_le_pow_right (by omega) hk
  have h0 := Nat.two_pow_pos k
  have e1 : (2 : Int) ^ k = ((2 ^ k : Nat) : Int) := by push_cast; rfl
  have e2 : IntKind.u64.wrap ((2 ^ k : Nat) : Int) = ((2 ^ k : Nat) : Int) := u64w _ (by omega) (by omega)
  have e3 : ((2 ^ k : Nat) : Int) - 1 = ((2 ^ k - 1 : Nat) : Int) := by omega
  have e4 : IntKind.u64.wrap ((2 ^ k - 1 : Nat) : Int) = ((2 ^ k - 1 : Nat) : Int) := u64w _ (by omega) (by omega)
  rw [e1, e2, e3, e4, bits_and_u64_nat _ _ hn (by omega), Nat.and_two_pow_sub_one_eq_mod]
theorem pow_lt (k : Nat) (h : k ≤ 52) : 2 ^ k ≤ 4503599627370496 := Nat.pow_le_pow_right (by omega) h
variable {B g : Nat} {w0 W W1 : World} {v : Value} {ds : List Int} {dp : Int}
/-- half's second loop: the decimal as it was, the new digits' row above b -/
structure H (B g b : Nat) (w0 : World) (v : Value) (ds : List Int) (dp : Int) (vo : Value) (os : List Int) (wr : World) : Prop where
  blk : wr.heap[g]? = some (.cells #[v, .int .i64 dp] 52 (0, 0))
  row : Kd.R (Kd.int .u8) 5 wr B (fun k => k < b) v ds
  out : Kd.R (Kd.int .u8) 5 wr b (fun _ => True) vo os
  bel : Below B w0 wr
  bg : B ≤ g
  gb : g < b
  sz : b ≤ wr.heap.size
theorem H.grow {b : Nat} {vo vo2 : Value} {os os2 : List Int} {wr w2 : World} (h : H B g b w0 v ds dp vo os wr) (hg : wr.grownBy w2 vo.ownBlock) (hr : Kd.R (Kd.int .u8) 5 w2 b (fun _ => True) vo2 os2) : H B g b w0 v ds dp vo2 os2 w2 := by
  have hb := Kd.R_base h.out
  have h1 := h.gb
  have h2 := h.bg
  have h3 := h.sz
  refine ⟨(hg.block g (by omega) (fun e => by have := hb g e.symm; omega)).trans h.blk, Kd.R_grown h.row hg (fun k hk e => by have := hb k e.symm; omega), hr, h.bel.grown hg (by omega) (fun k hk => by have := hb k hk; omega), h2, h1, Nat.le_trans h3 hg.size⟩
theorem H.start (h : D B w0 g v ds dp W) : H B g W.heap.size w0 v ds dp (.slice none 0 0) [] W :=
  ⟨h.blk, Kd.R_mono (Kd.R_bound h.row) (fun k hk => hk.2.2.1), Kd.R_nil _ _ _ _ _, h.bel, h.bg, (Array.getElem?_eq_some_iff.1 h.blk).1, Nat.le_refl _⟩
theorem H.fin {b : Nat} {vo : Value} {os : List Int} {wr : World} (h : H B g b w0 v ds dp vo os wr) : D B w0 g vo os dp (wr.setCell ⟨g, 0, none⟩ vo) := by
  have h1 := h.gb
  have h2 := h.bg
  refine ⟨?_, Kd.R_set (Kd.R_lower h.out (by omega)) h.blk five_ne 0 _, h.bel.setCell h.bg _, h.bg⟩
  rw [set_cells _ g 0 _ _ _ h.blk]
  rfl
set_option maxHeartbeats 4000000 in
theorem half_c (h : D B w0 g v ds dp W) (hd : ∀ d ∈ ds, 0 ≤ d ∧ d ≤ 9) (hlen : ds.length ≤ 100) (hh : 1 ≤ ds.getD 0 0) (hdp : -1000 ≤ dp ∧ dp ≤ 1000) (k : Nat) (hk1 : 37 ≤ k) (hk2 : k ≤ 52) (F1 F2 i0 n0 : Nat) (out : List Int)
    (hp1 : ph1 k ds F1 0 0 = some (i0, n0)) (hp2 : ph2 k ds F2 i0 n0 [] = some out) (hF1 : F1 ≤ 200) (hF2 : F2 ≤ 300) :
    Calls Try.prog 27 #[.pointer (some ⟨g, 0, none⟩), .int .i64 (k : Int)] W fun e w' => e = .returned (.tuple #[]) ∧ ∃ v', D B w0 g v' (trim out) (tdp out (dp - (i0 - 1))) w' := by
  have HD := Aside0.mk h
  obtain ⟨h0, h1, f0, f1⟩ := h.cells
  have HP1 := Aside0.mk hp1
  have HP2 := Aside0.mk hp2
  have hpos : 0 < ds.length := by
    rcases Nat.eq_zero_or_pos ds.length with e | e
    · rw [List.eq_nil_of_length_eq_zero e] at hh
      exact absurd hh (by decide)
    · exact e
  obtain ⟨g2, cap, rfl, hgb, hgl, X9, hty⟩ := Kd.R_form h.row hpos
  have hP := pow_lt k hk2
  clear h hp1 hp2 hgb hgl hty
  go_enter Try.func27, Try.ntmps27
  go_wp2
  go_loopg [4, 5] F1 (fun gk vn vi wr => ∃ (i n : Nat), Value.int .u64 (n : Int) = vn ∧ Value.int .i64 (i : Int) = vi ∧ wr = W ∧ i + gk = F1 ∧ (i = 0 ∧ n = 0 ∨ 1 ≤ n) ∧ n < 10 * 2 ^ k ∧ Aside0 (ph1 k ds gk i n = some (i0, n0)))
  case atStart => exact ⟨0, 0, rfl, rfl, rfl, by omega, Or.inl ⟨rfl, rfl⟩, Nat.mul_pos (by omega) (Nat.two_pow_pos _), HP1⟩
  case round =>
    obtain ⟨i, n, rfl, rfl, hwr, higk, hn1, hn2, HR⟩ := hrel
    replace hwr := hwr.symm
    subst hwr
    have hac := HR.out
    obtain ⟨gf, rfl⟩ : ∃ gf, gk = gf + 1 := by
      cases gk with
      | zero => rw [ph1] at hac; cases hac
      | succ f => exact ⟨f, rfl⟩
    rw [ph1] at hac
    have hdn := dAt_le ds hd i
    clear HR
    by_cases hq : n / 2 ^ k ≠ 0
    · rw [if_pos hq] at hac
      injection hac with hac
      injection hac with e1 e2
      subst e1
      subst e2
      have hqb : (((n : Int) / 2 ^ k) == 0) = false := by
        rw [beq_eq_false_iff_ne]
        intro e
        exact hq (by exact_mod_cast e)
      have hqn : ¬ (((n : Int) / 2 ^ k) = 0) := by
        intro e
        exact hq (by exact_mod_cast e)
      have HN := Aside0.mk (HD.out.point (dp - ((i : Int) - 1)))
      have hw1 : IntKind.i64.wrap ((i : Int) - 1) = (i : Int) - 1 := Go.IntWalk.i64_in _ (by omega)
      have hw2 : IntKind.i64.wrap (dp - ((i : Int) - 1)) = dp - ((i : Int) - 1) := Go.IntWalk.i64_in _ (by omega)
      clear hq
      have HH := Aside0.mk (H.start HN.out)
      obtain ⟨w1, hw1e⟩ : ∃ w1, w1 = W.setCell ⟨g, 1, none⟩ (.int .i64 (dp - ((i : Int) - 1))) := ⟨_, rfl⟩
      rw [← hw1e] at HH
      clear HN
      go_wp2
      rw [← hw1e]
      clear hw1 hw2 hqb hqn HD h0 h1 f0 f1 hw1e HP1
      obtain ⟨q, hqe⟩ : ∃ q, q = dp - ((i : Int) - 1) := ⟨_, rfl⟩
      rw [← hqe] at HH
      have HQE := Aside0.mk hqe
      clear hqe
      go_loopg [4, 5, 6] F2 (fun gk vn vi vo wr => ∃ (i n : Nat) (os : List Int) (v1 : Value), Value.int .u64 (n : Int) = vn ∧ Value.int .i64 (i : Int) = vi ∧ v1 = vo ∧ n < 10 * 2 ^ k ∧ i + gk ≤ 1000 ∧ os.length + gk ≤ 1000 ∧ Aside0 (ph2 k ds gk i n os = some out) ∧ Aside0 (H B g w1.heap.size w0 (.slice (some ⟨g2, 0, none⟩) ds.length cap) ds q v1 os wr))
      case atStart => exact ⟨i, n, [], _, rfl, rfl, rfl, hn2, by omega, by simp; omega, HP2, HH⟩
      case round =>
        obtain ⟨i, n, os, v1, rfl, rfl, rfl, hn2, hig, hog, HR, HHr⟩ := hrel
        clear HH
        have hac := HR.out
        obtain ⟨gf, rfl⟩ : ∃ gf, gk = gf + 1 := by
          cases gk with
          | zero => rw [ph2] at hac; cases hac
          | succ f => exact ⟨f, rfl⟩
        rw [ph2] at hac
        clear HR
        have h0 : wr.cell? ⟨g, 0, none⟩ = some (.slice (some ⟨g2, 0, none⟩) ds.length cap) := (blk_cell HHr.out.blk 0).trans rfl
        have f0 : wr.frozen? ⟨g, 0, none⟩ = false := by have := HHr.out.blk; simp [World.frozen?, this]
        by_cases hi : i < ds.length
        · rw [if_pos (Or.inl hi)] at hac
          have d1 : decide (i < ds.length) = true := decide_eq_true hi
          have hmask := maskF n k (by omega) hk2
          have hmlt : n % 2 ^ k < 2 ^ k := Nat.mod_lt _ (Nat.two_pow_pos k)
          obtain ⟨m, hm⟩ : ∃ m, m = n % 2 ^ k := ⟨_, rfl⟩
          rw [← hm] at hmask hac hmlt
          have hdn := dAt_le ds hd i
          have HROW := HHr.out.row
          obtain ⟨d, hde⟩ : ∃ d, d = dAt ds i := ⟨_, rfl⟩
          have hdi := dAt_int ds hd i hi
          rw [← hde] at hac hdn hdi
          have hwm : IntKind.u64.wrap ((m : Int) * 10) = (m : Int) * 10 := u64w _ (by omega) (by omega)
          have hwd : IntKind.u64.wrap (d : Int) = (d : Int) := u64w _ (by omega) (by omega)
          have hwa : IntKind.u64.wrap ((m : Int) * 10 + (d : Int)) = (m : Int) * 10 + (d : Int) := u64w _ (by omega) (by omega)
          have HA := Aside0.mk hac
          clear hac hm hde
          go_wp2_with ((with_reducible refine gate_builtin (b := .append) (xs := #[.tmp 68, .tmp 73]) rfl ?_); at_builtin; refine Kd.R_append (Kd.int .u8) (w0 := wr) w1.heap.size rfl (.tmp 68) (.tmp 73) 50 5 (.int .u8 0) 1 rfl Try.underlying50 info5 rfl (by decide) (by omega) v1 os ((n / 2 ^ k % 256 : Nat) : Int) [.int .u8 ((n / 2 ^ k % 256 : Nat) : Int)] (fun _ => True) (fun _ => False) rfl rfl ?aP (fun _ hk => hk.elim) ?aF ?aO (Below.refl _ _) ?aS ?aL ?_; (case aP => exact rfl); (case aF => exact (fun _ _ => trivial)); (case aO => exact HHr.out.out); (case aS => exact HHr.out.sz); (case aL => omega); intro v2 w2 ho hb hg hat; have HH2 := Aside0.mk (HHr.out.grow hg ho); have hA0 := (blk_cell HH2.out.blk 0).trans rfl; change w2.cell? _ = some (.slice (some ⟨g2, 0, none⟩) ds.length cap) at hA0; have hx0 := (Kd.R_celln (0 : Int) HH2.out.row (i : Int) (by omega) (by omega)).1; rw [Int.toNat_natCast] at hx0; change w2.cell? _ = some (.int .u8 (rdOf 0 ds (i : Int))) at hx0; rw [hdi] at hx0; clear ho hb hg hat)
          go_roundg gf
          case measure => omega
          case rel => exact ⟨i + 1, m * 10 + d, os ++ [((n / 2 ^ k % 256 : Nat) : Int)], v2, by push_cast; rfl, by push_cast; rfl, rfl, by omega, by omega, by simp; omega, HA, HH2⟩
        · have d1 : decide (i < ds.length) = false := decide_eq_false hi
          by_cases hn : 0 < n
          · rw [if_pos (Or.inr hn)] at hac
            have d2 : decide ((n : Int) > 0) = true := decide_eq_true (by omega)
            have d3 : decide (0 < n) = true := decide_eq_true hn
            rw [dAt_out ds i hi] at hac
            have hmask := maskF n k (by omega) hk2
            have hmlt : n % 2 ^ k < 2 ^ k := Nat.mod_lt _ (Nat.two_pow_pos k)
            obtain ⟨m, hm⟩ : ∃ m, m = n % 2 ^ k := ⟨_, rfl⟩
            rw [← hm] at hmask hac hmlt
            have hwm : IntKind.u64.wrap ((m : Int) * 10) = (m : Int) * 10 := u64w _ (by omega) (by omega)
            have HA := Aside0.mk hac
            clear hac hm
            go_wp2_with ((with_reducible refine gate_builtin (b := .append) (xs := #[.tmp 68, .tmp 73]) rfl ?_); at_builtin; refine Kd.R_append (Kd.int .u8) (w0 := wr) w1.heap.size rfl (.tmp 68) (.tmp 73) 50 5 (.int .u8 0) 1 rfl Try.underlying50 info5 rfl (by decide) (by omega) v1 os ((n / 2 ^ k % 256 : Nat) : Int) [.int .u8 ((n / 2 ^ k % 256 : Nat) : Int)] (fun _ => True) (fun _ => False) rfl rfl ?aP (fun _ hk => hk.elim) ?aF ?aO (Below.refl _ _) ?aS ?aL ?_; (case aP => exact rfl); (case aF => exact (fun _ _ => trivial)); (case aO => exact HHr.out.out); (case aS => exact HHr.out.sz); (case aL => omega); intro v2 w2 ho hb hg hat; have HH2 := Aside0.mk (HHr.out.grow hg ho); have hA0 := (blk_cell HH2.out.blk 0).trans rfl; change w2.cell? _ = some (.slice (some ⟨g2, 0, none⟩) ds.length cap) at hA0; clear ho hb hg hat)
            go_roundg gf
            case measure => omega
            case rel => exact ⟨i + 1, m * 10 + 0, os ++ [((n / 2 ^ k % 256 : Nat) : Int)], v2, by push_cast; simp, by push_cast; rfl, rfl, by omega, by omega, by simp; omega, HA, HH2⟩
          · have hz : n = 0 := by omega
            subst hz
            rw [if_neg (by omega)] at hac
            injection hac with hac
            subst hac
            obtain ⟨A1, c1, rfl⟩ := Kd.R_slice HHr.out.out
            have HF := Aside0.mk HHr.out.fin
            have HT := fun hl => Aside0.mk (trim_c HF.out hl)
            clear hn1 higk
            go_wp2_with (go_at_call 25; refine ((HT (by omega)).out).mono ?_; rintro e w3 ⟨rfl, hv3⟩; have HV := Aside0.mk hv3; clear hv3)
            go_end0
            exact ⟨rfl, by rw [← HQE.out]; exact HV.out⟩
    · rw [if_neg hq] at hac
      have hq0 : n / 2 ^ k = 0 := by omega
      have hqz : ((n : Int) / 2 ^ k) = 0 := by exact_mod_cast hq0
      have hqb : (((n : Int) / 2 ^ k) == 0) = true := by rw [hqz]; rfl
      have hn3 : n < 2 ^ k := by
        rcases Nat.lt_or_ge n (2 ^ k) with h | h
        · exact h
        · exact absurd hq0 (by have := Nat.div_pos h (Nat.two_pow_pos k); omega)
      have HA := Aside0.mk hac
      have hwm : IntKind.u64.wrap ((n : Int) * 10) = (n : Int) * 10 := u64w _ (by omega) (by omega)
      clear hac hq hq0
      by_cases hi : i < ds.length
      · have hx := Kd.R_celln (0 : Int) HD.out.row (i : Int) (by omega) (by omega)
        rw [Int.toNat_natCast] at hx
        obtain ⟨hx0, hf0⟩ := hx
        change W.cell? _ = some (.int .u8 (rdOf 0 ds (i : Int))) at hx0
        rw [dAt_int ds hd i hi] at hx0
        have d1 : decide (i < ds.length) = true := decide_eq_true hi
        have d2 : decide (ds.length ≤ i) = false := decide_eq_false (by omega)
        have hnl : ¬ ds.length ≤ i := by omega
        obtain ⟨d, hde⟩ : ∃ d, d = dAt ds i := ⟨_, rfl⟩
        rw [← hde] at hx0 hdn HA
        have hwd : IntKind.u64.wrap (d : Int) = (d : Int) := u64w _ (by omega) (by omega)
        have hwa : IntKind.u64.wrap ((n : Int) * 10 + (d : Int)) = (n : Int) * 10 + (d : Int) := u64w _ (by omega) (by omega)
        have hd1 : i = 0 → 1 ≤ d := fun e => by subst e; rw [hde]; unfold dAt; omega
        clear hde hqz
        go_wp2
        go_roundg gf
        case measure => omega
        case rel => exact ⟨i + 1, n * 10 + d, by push_cast; rfl, by push_cast; rfl, rfl, by omega, Or.inr (by rcases hn1 with ⟨e1, e2⟩ | e; (have := hd1 e1; omega); omega), by omega, HA⟩
      · have d1 : decide (i < ds.length) = false := decide_eq_false hi
        have d2 : decide (ds.length ≤ i) = true := decide_eq_true (by omega)
        have hn5 : 1 ≤ n := by omega
        have hnz : ¬ ((n : Int) = 0) := by omega
        have hnb : ((n : Int) == 0) = false := by simp; omega
        rw [dAt_out ds i hi] at HA
        clear hqz
        go_wp2
        go_roundg gf
        case measure => omega
        case rel => exact ⟨i + 1, n * 10 + 0, by push_cast; simp, by push_cast; rfl, rfl, by omega, Or.inr (by omega), by omega, HA⟩
end Go.Proofs.Ytgemoagbefdemaa.UnC
