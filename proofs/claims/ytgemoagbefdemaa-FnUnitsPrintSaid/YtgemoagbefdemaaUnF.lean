/-
  Proved: what up returns. Conditions: digits; as told.
-/
import Derived.Test.YtgemoagbefdemaaUnE
namespace Go.Proofs.Ytgemoagbefdemaa.UnF
open Go.RowKit Go.Proofs.YtgemoagbefdemaaW.PrintWords Go.Proofs.Ytgemoagbefdemaa.Common Go.Proofs.Ytgemoagbefdemaa.GEU Go.Proofs.Ytgemoagbefdemaa.UnB Go.Proofs.Ytgemoagbefdemaa.UnC Go.Proofs.Ytgemoagbefdemaa.UnE
set_option linter.unusedVariables false
set_option linter.unusedSimpArgs false
set_option maxRecDepth 1000000
/-- the digits ahead of the last one under 9, and that one more -/
def upL (ds : List Int) : Nat → Option (List Int)
  | 0 => none
  | i + 1 => if rdOf 0 ds (i : Int) < 9 then some ((ds.take (i + 1)).set i (rdOf 0 ds (i : Int) + 1)) else upL ds i
def upD (ds : List Int) (n : Nat) : List Int := (upL ds n).getD [1]
def upP (ds : List Int) (dp : Int) (n : Nat) : Int := if (upL ds n).isSome then dp else dp + 1
theorem R_one (W : World) : Kd.R (Kd.int .u8) 5 (W.alloc (.cells #[.int .u8 1] 5)) W.heap.size (fun _ => True) (.slice (some ⟨W.heap.size, 0, none⟩) 1 1) [1] :=
  ⟨fun _ _ => trivial, [.int .u8 1], ⟨rfl, Or.inr ⟨W.heap.size, 1, #[.int .u8 1], rfl, Nat.le_refl _, heap_alloc_new W _, Nat.le_refl _, by decide, rfl, rfl⟩⟩, Reps.snoc (Reps.none _ _) rfl rfl⟩
variable {B g : Nat} {w0 W W1 : World} {v : Value} {ds : List Int} {dp : Int}
theorem _root_.Go.Proofs.Ytgemoagbefdemaa.UnB.D.put {g3 m c : Nat} (h : D B w0 g (.slice (some ⟨g3, 0, none⟩) m c) ds dp W) (i : Nat) (x : Int) (hb : B ≤ g3) (hty : ∃ X, W.heap[g3]? = some (.cells X 5 (0, 0))) : D B w0 g (.slice (some ⟨g3, 0, none⟩) m c) (ds.set i x) dp (W.setCell ⟨g3, i, none⟩ (.int .u8 x)) := by
  have hne : g ≠ g3 := fun e => by
    obtain ⟨X, hX⟩ := hty
    rw [← e, h.blk] at hX
    injection hX with hX
    injection hX with _ hX
    exact absurd hX (by decide)
  have hp := Kd.R_putn h.row (i : Int) x
  rw [Int.toNat_natCast] at hp
  refine ⟨?_, hp, h.bel.setCell hb _, h.bg⟩
  rw [Below.heap_setCell _ _ _ _ hne]
  exact h.blk
set_option maxHeartbeats 8000000 in
theorem up_c (h : D B w0 g v ds dp W) (hd : ∀ d ∈ ds, 0 ≤ d ∧ d ≤ 9) (n : Nat) (hlen : ds.length ≤ 200) (hn : n < ds.length) (hdp : -1000 ≤ dp ∧ dp ≤ 1000) :
    Calls Try.prog 29 #[.pointer (some ⟨g, 0, none⟩), .int .i64 (n : Int)] W fun e w' => ∃ g' v', e = .returned (.pointer (some ⟨g', 0, none⟩)) ∧ D B w0 g' v' (upD ds n) (upP ds dp n) w' := by
  obtain ⟨g2, cap, rfl, hgb, hgl, X9, hty⟩ := Kd.R_form h.row (by omega)
  obtain ⟨h0, h1, f0, f1⟩ := h.cells
  have d1 : decide (ds.length ≤ n) = false := decide_eq_false (by omega)
  have hcap : ds.length ≤ cap := (Kd.R_reads' h.row).2.1
  have hgl2 : g < W.heap.size := (Array.getElem?_eq_some_iff.1 h.blk).1
  have H := Aside0.mk h
  have hwn : IntKind.i64.wrap ((n : Int) - 1) = (n : Int) - 1 := Go.IntWalk.i64_in _ (by omega)
  clear h
  go_enter Try.func29, Try.ntmps29
  go_wp2
  go_loopg [5] n (fun gk v5 wr => v5 = .int .i64 ((gk : Int) - 1) ∧ wr = W ∧ gk ≤ n ∧ Aside0 (upL ds gk = upL ds n))
  case atStart => exact ⟨rfl, rfl, Nat.le_refl _, ⟨rfl⟩⟩
  case round =>
    obtain ⟨rfl, hwr, hgk, HU⟩ := hrel
    replace hwr := hwr.symm
    subst hwr
    cases gk with
    | zero =>
      have d2 : decide ((((0 : Nat) : Int) - 1) ≥ 0) = false := decide_eq_false (by omega)
      have hu := HU.out
      rw [upL] at hu
      have hw1 : IntKind.i64.wrap (dp + 1) = dp + 1 := Go.IntWalk.i64_in _ (by omega)
      have HU2 := Aside0.mk hu
      have HD := Aside0.mk (mk_new (q := dp + 1) H.out (R_one W) (below_alloc (Below.refl _ _) _))
      clear hu HU
      go_wp2
      go_ret
      have hsz : (W.alloc (Obj.cells #[Value.int IntKind.u8 1] 5)).heap.size = W.heap.size + 1 := by
        show (W.heap.push _).size = _
        rw [Array.size_push]
      have HD2 := HD.out
      rw [hsz] at HD2
      refine ⟨_, .slice (some ⟨W.heap.size, 0, none⟩) 1 1, rfl, ?_⟩
      have e1 : upD ds n = [1] := by unfold upD; rw [← HU2.out]; rfl
      have e2 : upP ds dp n = dp + 1 := by unfold upP; rw [← HU2.out]; rfl
      rw [e1, e2]
      exact HD2
    | succ i =>
      have hii : ((i + 1 : Nat) : Int) - 1 = (i : Int) := by omega
      have d2 : decide ((i : Int) ≥ 0) = true := decide_eq_true (by omega)
      have hx := Kd.R_celln (0 : Int) H.out.row (i : Int) (by omega) (by omega)
      rw [Int.toNat_natCast] at hx
      obtain ⟨hx0, hf0⟩ := hx
      change W.cell? _ = some (.int .u8 (rdOf 0 ds (i : Int))) at hx0
      have hdr : 0 ≤ rdOf 0 ds (i : Int) ∧ rdOf 0 ds (i : Int) ≤ 9 := by
        have hlt : i < ds.length := by omega
        have := hd _ (List.getElem_mem hlt)
        have e : rdOf 0 ds (i : Int) = ds[i] := by simp [rdOf, List.getD_eq_getElem?_getD, List.getElem?_eq_getElem hlt]
        rw [e]
        exact this
      have hac := HU.out
      rw [upL] at hac
      obtain ⟨x, hxe⟩ : ∃ x, rdOf 0 ds (i : Int) = x := ⟨_, rfl⟩
      rw [hxe] at hx0 hac hdr
      have hxr := hxe
      clear HU hxe
      rw [hii]
      by_cases h9 : x < 9
      · rw [if_pos h9] at hac
        have HA := Aside0.mk hac
        clear hac
        have d3 : decide (x < 9) = true := decide_eq_true h9
        have hwi : IntKind.i64.wrap ((i : Int) + 1) = (i : Int) + 1 := Go.IntWalk.i64_in _ (by omega)
        have hcap2 : (i : Int) + 1 ≤ cap := by omega
        have hcap3 : i + 1 ≤ cap := by omega
        have hge0 : (0 : Int) ≤ (i : Int) + 1 := by omega
        have hneg : ¬ ((i : Int) + 1 < 0) := by omega
        have hn1 := World.new_ne W ⟨g, 0, none⟩ h0
        have hn2 : W.heap.size + 1 ≠ g := by omega
        have hn3 : ¬ W.heap.size = g := hn1
        have hlt : i < ds.length := by omega
        have hle : i + 1 ≤ ds.length := hlt
        have HXR := Aside0.mk hxr
        clear hd hgk hwn hn d1 hii hf0 hxr
        go_wp2_with fail
        go_region_held3 (fun w' => w'.cell? ⟨g, 0, none⟩ = some (.slice (some ⟨g2, 0, none⟩) ds.length cap) ∧ w'.cell? ⟨g, 1, none⟩ = some (.int .i64 dp)) (go_keep) (first
          | (refine app_stepA (by simp [Region.wanted]) (.tmp 29) (.tmp 36) rfl H.out hlen (i + 1) hle (below_drew1 (below_alloc (Below.refl _ _) _)) (heap_alloc_new W _) (by simp [Act.eval, Act.put]) (by simp [Act.eval, Act.put]) ?_; intro A2 c2 w2 HR HB h10 h11 g12)
          | (refine app_stepB (by simp [Region.wanted]) (.tmp 29) (.tmp 36) rfl H.out hlen W.heap.size (W.heap.size + 1) (i + 1) hle (below_drew1 (below_alloc (below_alloc (Below.refl _ _) _) _)) (at0 W _ _) (Nat.le_refl _) (at1 W _ _) (Nat.succ_ne_self _) (by simp [Act.eval, Act.put]) (by simp [Act.eval, Act.put]) ?_; intro A2 c2 w2 HR HB h10 h11 g12 HE z0 z1 z2 z3)
          | (refine app_stepB (by simp [Region.wanted]) (.tmp 29) (.tmp 36) rfl H.out hlen (W.heap.size + 1) W.heap.size (i + 1) hle (below_drew1 (below_alloc (below_alloc (Below.refl _ _) _) _)) (at1 W _ _) (Nat.le_succ _) (at0 W _ _) (Nat.succ_ne_self _).symm (by simp [Act.eval, Act.put]) (by simp [Act.eval, Act.put]) ?_; intro A2 c2 w2 HR HB h10 h11 g12 HE z0 z1 z2 z3))
        all_goals (
          first
            | (obtain ⟨Wf, hWf⟩ : ∃ Wf, Wf = (w2.setCell ⟨W.heap.size + 1, 0, none⟩ (.slice A2 (i + 1) c2)).setCell ⟨W.heap.size + 1, 1, none⟩ (.int .i64 dp) := ⟨_, rfl⟩
               obtain ⟨e, he⟩ : ∃ e, e = W.heap.size + 1 := ⟨_, rfl⟩
               have HD := Aside0.mk (mk_out (q := dp) H.out HR.out HB.out (show W.heap.size ≤ W.heap.size + 1 from Nat.le_succ _) HE.out)
               rw [← hWf, ← he] at HD
               rw [← hWf, ← he])
            | (obtain ⟨Wf, hWf⟩ : ∃ Wf, Wf = (w2.setCell ⟨W.heap.size, 0, none⟩ (.slice A2 (i + 1) c2)).setCell ⟨W.heap.size, 1, none⟩ (.int .i64 dp) := ⟨_, rfl⟩
               obtain ⟨e, he⟩ : ∃ e, e = W.heap.size := ⟨_, rfl⟩
               have HD := Aside0.mk (mk_out (q := dp) H.out HR.out HB.out (Nat.le_refl _) HE.out)
               rw [← hWf, ← he] at HD
               rw [← hWf, ← he])
            | (obtain ⟨Wf, hWf⟩ : ∃ Wf, Wf = w2.alloc (.cells #[.slice A2 (i + 1) c2, .int .i64 dp] 52 (0, 0)) := ⟨_, rfl⟩
               obtain ⟨e, he⟩ : ∃ e, e = w2.heap.size := ⟨_, rfl⟩
               have HD := Aside0.mk (mk_new (q := dp) H.out HR.out HB.out)
               rw [← hWf, ← he] at HD
               rw [← hWf, ← he])
          clear hWf he h0 h1 f0 f1 hn1 hn2 hn3 h10 h11 g12 hx0 hty hgb hgl hgl2
          have hlt2 : (ds.take (i + 1)).length = i + 1 := by rw [List.length_take]; omega
          obtain ⟨g3, c3, e3, hgb3, hgl3, X3, hty3⟩ := Kd.R_form HD.out.row (by omega)
          injection e3 with e4 e5 e6
          subst e4
          subst e6
          obtain ⟨k0, k1, kf0, kf1⟩ := HD.out.cells
          have hy := Kd.R_celln (0 : Int) HD.out.row (i : Int) (by omega) (by omega)
          rw [Int.toNat_natCast] at hy
          obtain ⟨hy0, hyf⟩ := hy
          change Wf.cell? _ = some (.int .u8 (rdOf 0 (ds.take (i + 1)) (i : Int))) at hy0
          have hrx : rdOf 0 (ds.take (i + 1)) (i : Int) = x := by
            rw [← HXR.out]
            simp [rdOf, List.getD_eq_getElem?_getD]
          rw [hrx] at hy0
          have hwx : IntKind.u8.wrap (x + 1) = x + 1 := by
            have : IntKind.u8.wrap (x + 1) = (x + 1) % 256 := rfl
            rw [this]
            omega
          have HF := Aside0.mk (HD.out.put i (x + 1) hgb3 ⟨X3, hty3⟩)
          have hll : (i : Int) < (i : Int) + 1 := by omega
          have hl0 : (0 : Int) ≤ (i : Int) := by omega
          have hnl : i < i + 1 := Nat.lt_succ_self _
          clear hty3 e5 hlt2 hrx HD H hgb3 hgl3
          go_wp2
          go_ret
          have e1 : upD ds n = (ds.take (i + 1)).set i (x + 1) := by unfold upD; rw [← HA.out]; rfl
          have e2 : upP ds dp n = dp := by unfold upP; rw [← HA.out]; rfl
          have HF2 := HF.out
          rw [← e1, ← e2] at HF2
          exact ⟨_, _, rfl, HF2⟩)
      · rw [if_neg h9] at hac
        have HA := Aside0.mk hac
        clear hac
        have d3 : decide (x < 9) = false := decide_eq_false h9
        have hwi : IntKind.i64.wrap ((i : Int) - 1) = (i : Int) - 1 := Go.IntWalk.i64_in _ (by omega)
        go_wp2
        go_roundg i
        case measure => omega
        case rel => exact ⟨rfl, rfl, by omega, HA⟩
end Go.Proofs.Ytgemoagbefdemaa.UnF
