/-
  Proved: a decimal in memory; what (*decimal).trim leaves. Conditions: as told.
-/
import Derived.Test.YtgemoagbefdemaaGEUx1
import Derived.Test.YtgemoagbefdemaaCommon
import Derived.WalkKit
import Derived.IntWalk
import Derived.BigCall
import Derived.BigQuiet
import Derived.Deep.RegionHeld3
import Derived.Deep.LoopGhost
import Derived.Deep.DeepCutAuto
namespace Go.Proofs.Ytgemoagbefdemaa.UnB
open Go.RowKit Go.Proofs.YtgemoagbefdemaaW.PrintWords Go.Proofs.Ytgemoagbefdemaa.Common Go.Proofs.Ytgemoagbefdemaa.GEU
set_option linter.unusedVariables false
set_option linter.unusedSimpArgs false
set_option maxRecDepth 1000000
/-- the decimal in block g: its digits' row, its digits, its point; below B all is as in w0 -/
structure D (B : Nat) (w0 : World) (g : Nat) (v : Value) (ds : List Int) (dp : Int) (W : World) : Prop where
  blk : W.heap[g]? = some (.cells #[v, .int .i64 dp] 52 (0, 0))
  row : Kd.R (Kd.int .u8) 5 W B (fun _ => True) v ds
  bel : Below B w0 W
  bg : B ≤ g
def trimR (ds : List Int) : List Int := (ds.reverse.dropWhile (· == 0)).reverse
variable {B g : Nat} {w0 W W1 : World} {v : Value} {ds : List Int} {dp : Int}
theorem D.below (h : D B w0 g v ds dp W) (hB : B ≤ W.heap.size) (hb : Below W.heap.size W W1) : D B w0 g v ds dp W1 :=
  ⟨(hb.block _ (Array.getElem?_eq_some_iff.1 h.blk).1).trans h.blk, Kd.R_below h.row hb, h.bel.trans (hb.mono hB), h.bg⟩
theorem D.cells (h : D B w0 g v ds dp W) : W.cell? ⟨g, 0, none⟩ = some v ∧ W.cell? ⟨g, 1, none⟩ = some (.int .i64 dp) ∧ W.frozen? ⟨g, 0, none⟩ = false ∧ W.frozen? ⟨g, 1, none⟩ = false :=
  ⟨(blk_cell h.blk 0).trans rfl, (blk_cell h.blk 1).trans rfl, by simp [World.frozen?, h.blk], by simp [World.frozen?, h.blk]⟩
theorem D.size (h : D B w0 g v ds dp W) : B ≤ W.heap.size := Nat.le_of_lt (Nat.lt_of_le_of_lt h.bg (Array.getElem?_eq_some_iff.1 h.blk).1)
theorem D.drewN (h : D B w0 g v ds dp W) (n : Nat) : D B w0 g v ds dp (W.drewN n) := h.below h.size (pw_below_drewN (Below.refl _ _) n)
theorem five_ne : ∀ q, q ∈ (5 : Nat) :: (Kd.int .u8).E → q ≠ 52 := by
  intro q hq
  simp [Kd.int, Kd.scalar] at hq
  omega
theorem set_cells (w : World) (g j : Nat) (cells : Array Value) (t : Nat) (u : Value) (h : w.heap[g]? = some (.cells cells t (0, 0))) : (w.setCell ⟨g, j, none⟩ u).heap[g]? = some (.cells (cells.setIfInBounds j u) t (0, 0)) := by
  simp [World.setCell, Array.getElem?_modify, h]
/-- the row is cut -/
theorem D.cut {n c : Nat} {A : Option Addr} (h : D B w0 g (.slice A n c) ds dp W) (m : Nat) (hm : m ≤ ds.length) : D B w0 g (.slice A m c) (ds.take m) dp (W.setCell ⟨g, 0, none⟩ (.slice A m c)) := by
  refine ⟨?_, Kd.R_set (Kd.R_take h.row hm) h.blk five_ne 0 _, h.bel.setCell h.bg _, h.bg⟩
  rw [set_cells _ g 0 _ _ _ h.blk]
  rfl
/-- the point is set -/
theorem D.point (h : D B w0 g v ds dp W) (q : Int) : D B w0 g v ds q (W.setCell ⟨g, 1, none⟩ (.int .i64 q)) := by
  refine ⟨?_, Kd.R_set h.row h.blk five_ne 1 _, h.bel.setCell h.bg _, h.bg⟩
  rw [set_cells _ g 1 _ _ _ h.blk]
  rfl
/-- digits without the noughts at their end -/
def trimN : Nat → List Int → List Int
  | 0, ds => ds
  | k + 1, ds => if ds ≠ [] ∧ ds.getD (ds.length - 1) 0 = 0 then trimN k (ds.take (ds.length - 1)) else ds
def trim (ds : List Int) : List Int := trimN ds.length ds
def tdp (ds : List Int) (dp : Int) : Int := if trim ds = [] then 0 else dp
set_option maxHeartbeats 4000000 in
theorem trim_c (h : D B w0 g v ds dp W) (hlen0 : ds.length ≤ 1000) : Calls Try.prog 25 #[.pointer (some ⟨g, 0, none⟩)] W fun e w' => e = .returned (.pointer (some ⟨g, 0, none⟩)) ∧ ∃ v', D B w0 g v' (trim ds) (tdp ds dp) w' := by
  have HD := Aside0.mk h
  obtain ⟨h0, h1, f0, f1⟩ := h.cells
  clear h h0 h1 f0 f1
  go_enter Try.func25, Try.ntmps25
  go_wp2
  go_loopg [] ds.length (fun gk wr => ∃ (ds1 : List Int) (v1 : Value), ds1.length = gk ∧ gk ≤ 1000 ∧ Aside0 (trimN ds1.length ds1 = trim ds) ∧ Aside0 (D B w0 g v1 ds1 dp wr))
  case atStart => exact ⟨ds, v, rfl, hlen0, Aside0.mk rfl, HD⟩
  case round =>
    obtain ⟨ds1, v1, hlen, hgk, HT, HD1⟩ := hrel
    subst hlen
    clear HD
    by_cases hn : ds1.length = 0
    · obtain ⟨A, c, rfl⟩ := Kd.R_slice HD1.out.row
      obtain ⟨h0, h1, f0, f1⟩ := HD1.out.cells
      have d1 : decide (0 < ds1.length) = false := decide_eq_false (by omega)
      have hT : trim ds = [] := by rw [← HT.out, hn, List.eq_nil_of_length_eq_zero hn]; rfl
      have HP := HD1
      rw [List.eq_nil_of_length_eq_zero hn] at HP
      rw [hn] at h0 d1
      go_wp2_with fail
      go_quiet (fail)
      obtain ⟨wq, hwq⟩ : ∃ wq, wq = wr.drewN nq := ⟨_, rfl⟩
      have HQ := Aside0.mk (HP.out.drewN nq)
      rw [← hwq] at HQ ⊢
      clear HP HD1 h0 h1 f0 f1 hwq
      obtain ⟨h0, h1, f0, f1⟩ := HQ.out.cells
      change wq.cell? _ = some (.slice A 0 c) at h0
      have HN := Aside0.mk (HQ.out.point 0)
      go_wp2
      go_ret
      refine ⟨rfl, .slice A 0 c, ?_⟩
      have hz : tdp ds dp = 0 := by unfold tdp; rw [if_pos hT]
      rw [hT, hz]
      exact HN.out
    · obtain ⟨g2, cap, rfl, hgb, hgl, X9, hty⟩ := Kd.R_form HD1.out.row (by omega)
      obtain ⟨h0, h1, f0, f1⟩ := HD1.out.cells
      have hx := Kd.R_celln (0 : Int) HD1.out.row ((ds1.length - 1 : Nat) : Int) (by omega) (by omega)
      rw [Int.toNat_natCast] at hx
      obtain ⟨hx0, hf0⟩ := hx
      change wr.cell? _ = some (.int .u8 (rdOf 0 ds1 ((ds1.length - 1 : Nat) : Int))) at hx0
      have hl : rdOf 0 ds1 ((ds1.length - 1 : Nat) : Int) = ds1.getD (ds1.length - 1) 0 := by simp [rdOf]
      rw [hl] at hx0
      obtain ⟨m, hm⟩ : ∃ m, ds1.length = m + 1 := ⟨ds1.length - 1, by omega⟩
      have d1 : decide (0 < ds1.length) = true := decide_eq_true (by omega)
      have hwr : IntKind.i64.wrap (m : Int) = m := Go.IntWalk.i64_in _ (by omega)
      have hac := HT.out
      have hne : ds1 ≠ [] := fun e => by rw [e] at hn; exact hn rfl
      rw [hm, trimN] at hac
      obtain ⟨x, hxe⟩ : ∃ x, ds1.getD (ds1.length - 1) 0 = x := ⟨_, rfl⟩
      rw [hxe] at hx0 hac
      rw [show ds1.length - 1 = m by omega] at hx0 hac hf0
      have hlt : (m : Int) < (m : Int) + 1 := by omega
      have hge : (0 : Int) ≤ (m : Int) := by omega
      have hlt2 : m < m + 1 := by omega
      clear hl hxe hgb hgl hty HT
      by_cases hz : x = 0
      · subst hz
        rw [if_pos ⟨hne, rfl⟩] at hac
        have HA := Aside0.mk hac
        have HLT : Aside0 ((ds1.take m).length = m) := ⟨by rw [List.length_take]; omega⟩
        clear hac hne
        go_wp2_with fail
        go_quiet (fail)
        obtain ⟨wq, hwq⟩ : ∃ wq, wq = wr.drewN nq := ⟨_, rfl⟩
        have HQ := Aside0.mk (HD1.out.drewN nq)
        rw [← hwq] at HQ ⊢
        clear HD1 h0 h1 f0 f1 hx0 hf0 hwq
        obtain ⟨h0, h1, f0, f1⟩ := HQ.out.cells
        rw [hm] at h0
        have hcap : m ≤ cap := by have := (Kd.R_reads' HQ.out.row).2.1; omega
        go_wp2_with fail
        go_region
        have HE := Aside0.mk ((HQ.out.cut m (by omega)).drewN 1)
        go_wp2
        go_roundg m
        case measure => omega
        case rel => exact ⟨ds1.take m, _, HLT.out, by omega, Aside0.mk (by rw [HLT.out]; exact HA.out), HE⟩
      · rw [if_neg (fun e => hz e.2)] at hac
        have hzb : (x == 0) = false := by simpa using hz
        have HA := Aside0.mk hac
        clear hac
        go_wp2_with fail
        go_quiet (fail)
        obtain ⟨wq, hwq⟩ : ∃ wq, wq = wr.drewN nq := ⟨_, rfl⟩
        have HQ := Aside0.mk (HD1.out.drewN nq)
        rw [← hwq] at HQ ⊢
        clear HD1 h0 h1 f0 f1 hx0 hf0 hwq
        obtain ⟨h0, h1, f0, f1⟩ := HQ.out.cells
        have d2 : (ds1.length == 0) = false := by simpa using hn
        go_wp2
        go_ret
        refine ⟨rfl, .slice (some ⟨g2, 0, none⟩) ds1.length cap, ?_⟩
        have hne2 : ¬ trim ds = [] := by rw [← HA.out]; exact hne
        have hz : tdp ds dp = dp := by unfold tdp; rw [if_neg hne2]
        rw [hz, ← HA.out]
        exact HQ.out
end Go.Proofs.Ytgemoagbefdemaa.UnB
