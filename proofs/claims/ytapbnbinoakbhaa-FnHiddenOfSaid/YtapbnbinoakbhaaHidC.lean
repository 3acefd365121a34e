/-
  Proved: what the closure of table.hideColumns returns: the rows without the hidden cells. Conditions: at most 100 rows of at most 2147483647 cells.
-/
import Derived.Test.YtapbnbinoakbhaaHidB
namespace Go.Proofs.Ytapbnbinoakbhaa.HidC
open Go.RowKit Go.Proofs.YtapbnbinoakbhaaW.PrintWords Go.Proofs.Ytapbnbinoakbhaa.Common Go.Proofs.Ytapbnbinoakbhaa.ZReg Go.Proofs.Ytapbnbinoakbhaa.ZWid Go.Proofs.Ytapbnbinoakbhaa.IMap Go.Proofs.Ytapbnbinoakbhaa.GEZ Go.Proofs.Ytapbnbinoakbhaa.HidB
set_option linter.unusedVariables false
set_option linter.unusedSimpArgs false
set_option maxRecDepth 1000000

theorem store_nil (w : World) (b : Bool) : (store ⟨w.heap.size, 14, none⟩ Value.nilFunc).run Try.prog (w.alloc (Obj.cells #[.string ⟨#[]⟩, .int .i64 0, .int .i64 0, .int .i64 0, .int .i64 0, .bool false, .slice none 0 0, .slice none 0 0, .slice none 0 0, .bool b, .int .i64 0, .int .i64 0, .int .i64 0, .int .i64 0, .nilFunc, .int .i64 0] 84)) = .ok () (w.alloc (Obj.cells #[.string ⟨#[]⟩, .int .i64 0, .int .i64 0, .int .i64 0, .int .i64 0, .bool false, .slice none 0 0, .slice none 0 0, .slice none 0 0, .bool b, .int .i64 0, .int .i64 0, .int .i64 0, .int .i64 0, .nilFunc, .int .i64 0] 84)) := by
  rw [run_store _ _ _ _ _ (by rfl)]
  simp [World.cell?_alloc_at, World.frozen?_alloc_at, World.setCell_alloc_at]
set_option maxHeartbeats 8000000 in
theorem hide1_c (B : Nat) (w0 w : World) (bt Bt Bm Bn mr cm : Nat) (hs : Nat → Bool) (m n0 : Nat) (H0 : HS0 B w0 w bt Bt Bm Bn mr cm hs m) (hB : B ≤ w.heap.size) (hBw : Below B w0 w) (hn0 : w.heap[Bn]? = some (.cells #[.int .i64 (n0 : Int)] 3 (0, 0)))
    (A0 : Option Addr) (c0 : Nat) (l0 : List (List ByteArray)) (ok : Nat → Prop) (HF : Kd.F (Kd.slice 9 Kd.string) w ok A0 l0.length l0) (hok : ∀ k, ok k → k ≠ Bn ∧ k ≠ cm) (hl : l0.length ≤ 100) (hr : ∀ i : Nat, (rd_L1 l0 (i : Int)).length ≤ 2147483647) :
    Calls Try.prog 76 #[.slice A0 l0.length c0, .pointer (some ⟨Bt, 0, none⟩), .pointer (some ⟨Bm, 0, none⟩), .pointer (some ⟨Bn, 0, none⟩)] w fun e w' => ∃ v, e = .returned v ∧ HI B w0 w Bn cm (numTo (hdn hs m) l0 n0 l0.length) v (rowsTo (hdn hs m) l0 l0.length) (.slice none 0 0) [] w' := by
  have HR := fun i h => Aside0.mk (row_at HF hok i h)
  have HRL := fun i => Aside0.mk (hr i)
  have HB := Aside0.mk hB
  have HI0 : Aside0 (HI B w0 w Bn cm (numTo (hdn hs m) l0 n0 0) (.slice none 0 0) (rowsTo (hdn hs m) l0 0) (.slice none 0 0) [] w) := ⟨⟨fun _ _ _ _ => rfl, Nat.le_refl _, hn0, H0.cmp, Kd.S_nil _ _ _ _ _, Kd.R_nil _ _ _ _ _, hBw⟩⟩
  have HA := Aside0.mk H0
  have HCW : Aside0 (cm < w.heap.size ∧ Bn < w.heap.size) := ⟨by obtain ⟨f, hf⟩ := H0.cmp; exact ⟨imap_lt hf, (Array.getElem?_eq_some_iff.1 hn0).1⟩⟩
  clear hr HF hok H0 hBw hn0 hB
  go_enter Try.func76, Try.ntmps76
  go_wp2
  go_loopw [6, 15] (fun v6 i wr => ∃ (q : Nat) (u6 : Value), Value.int .i64 (q : Int) = i ∧ u6 = v6 ∧ q ≤ l0.length ∧ Aside0 (HI B w0 w Bn cm (numTo (hdn hs m) l0 n0 q) u6 (rowsTo (hdn hs m) l0 q) (.slice none 0 0) [] wr)) (fun _ i _ => l0.length - (intOf i).toNat)
  case atStart => exact ⟨0, _, rfl, rfl, by omega, HI0⟩
  case round =>
    obtain ⟨q, u6, rfl, rfl, hq, HS⟩ := hrel
    clear HI0
    by_cases hlt : q < l0.length
    · obtain ⟨ad, A, c, rfl, hlc, hrow⟩ := (HR q hlt).out
      have hc0 := (hrow _ HS.out.keep).1
      have HRW := Aside0.mk hrow
      have hrl := (HRL q).out
      obtain ⟨r, hre⟩ : ∃ r, r = rd_L1 l0 (q : Int) := ⟨_, rfl⟩
      rw [← hre] at HRW hc0 hlc hrl
      have HRE := Aside0.mk hre
      clear hrow hre HR HRL hlc
      go_wp2
      go_loopw [9, 21] (fun v9 i wi => ∃ (j : Nat) (u9 : Value), Value.int .i64 (j : Int) = i ∧ u9 = v9 ∧ j ≤ r.length ∧ Aside0 (HI B w0 w Bn cm (numTo (hdn hs m) l0 n0 q) u6 (rowsTo (hdn hs m) l0 q) u9 (hidTo (hdn hs m) r j) wi)) (fun _ i _ => r.length - (intOf i).toNat)
      case atStart => exact ⟨0, _, rfl, rfl, by omega, HS⟩
      case round =>
        obtain ⟨j, u9, rfl, rfl, hj, HJ⟩ := hrel
        clear HS hc0
        by_cases hlj : j < r.length
        · obtain ⟨ad2, e2, hcs⟩ := Kd.at_string (HRW.out _ HJ.out.keep).2 (j : Int) (by omega) (by omega)
          cases e2
          simp only [Int.toNat_natCast] at hcs
          obtain ⟨x, hx⟩ : ∃ x, x = rdOf ByteArray.empty r (j : Int) := ⟨_, rfl⟩
          rw [← hx] at hcs
          obtain ⟨k1, k2, k3, k4⟩ := HA.out.at HJ.out.keep
          have hlk := imap_lookup k4 Try.underlying133 Try.underlying3 (zero84 _) (j : Int) (WalkArith.wf_i64 (by omega)) false
          rw [map_get] at hlk
          simp only [Bool.false_eq_true, if_false] at hlk
          obtain ⟨b, hb⟩ : ∃ b, b = hdn hs m j := ⟨_, rfl⟩
          rw [← hb] at hlk
          unfold cfgV at hlk
          clear k4 k3
          cases b with
          | true =>
            have HX : Aside0 (hidTo (hdn hs m) r (j + 1) = hidTo (hdn hs m) r j) := ⟨hidTo_yes _ _ _ hb.symm⟩
            have hst := store_nil wr true
            have HJ2 := fun X => Aside0.mk (HJ.out.below HB.out (below_alloc (Below.refl _ _) X))
            clear hb hx HJ
            go_wp2
            go_roundw
            case rel => exact ⟨j + 1, _, by go_num, rfl, by omega, ⟨by rw [HX.out]; exact (HJ2 _).out⟩⟩
            case measure => simp [intOf]; omega
          | false =>
            have HX : Aside0 (hidTo (hdn hs m) r (j + 1) = hidTo (hdn hs m) r j ++ [x]) := ⟨by rw [hx]; exact hidTo_no _ _ _ hb.symm⟩
            have hst := store_nil wr false
            have HJ2 := fun X => Aside0.mk (HJ.out.below HB.out (below_alloc (Below.refl _ _) X))
            have hl9 := hidTo_len (hdn hs m) r (j + 1)
            have hl8 : ((hidTo (hdn hs m) r j).length + 1) * 16 ≤ 140737488355328 := by have := hidTo_len (hdn hs m) r j; omega
            have HL8 := Aside0.mk hl8
            have hsz : ∀ X, Value.slice (some ⟨wr.heap.size + 1, 0, none⟩) 1 1 = Value.slice (some ⟨(wr.alloc X).heap.size, 0, none⟩) 1 1 := fun X => by simp
            clear hb hx HJ hl8
            go_wp2_with (first
              | ((with_reducible refine gate_builtin (b := .append) (xs := #[.tmp 35, .tmp 37]) rfl ?_); at_builtin; refine Kd.R_append Kd.string (w0 := _) w.heap.size rfl (.tmp 35) (.tmp 37) 162 9 (.string ⟨#[]⟩) 16 rfl Try.underlying162 info9 rfl (by decide) (by decide) u9 (hidTo (hdn hs m) r j) x [.string x] (fun _ => True) (fun _ => False) rfl (hsz _) rfl (fun _ hk => hk.elim) (fun _ _ => trivial) (HJ2 _).out.row (Below.refl _ _) (HJ2 _).out.size HL8.out ?_; intro v1 w1 ho hb hg hat; rw [← HX.out] at ho; have HJ3 := Aside0.mk ((HJ2 _).out.app HB.out ho hg hat); obtain ⟨A9, c9, rfl⟩ := Kd.R_slice ho; have k5 := (HA.out.at HJ3.out.keep).2.2.1; clear ho hb hg hat)
              | (at_mapUpdate; refine wp_store rfl _ _ _ rfl Try.underlying155 Try.underlying3 rfl HJ3.out.map.choose_spec (j : Int) rfl (WalkArith.wf_i64 (by omega)) ?_; intro w9 him hg; have HJ4 := Aside0.mk (HJ3.out.put HB.out HA.out.bc HCW.out.1 hg him); clear him hg))
            go_roundw
            case rel => exact ⟨j + 1, _, by go_num, rfl, by omega, HJ4⟩
            case measure => simp [intOf]; omega
        · obtain rfl : j = r.length := by omega
          have HE : Aside0 (hidTo (hdn hs m) r r.length = hidRow (hdn hs m) r) := ⟨rfl⟩
          rw [HE.out] at HJ
          obtain ⟨A9, c9, rfl⟩ := Kd.R_slice HJ.out.row
          have hl9 : (hidRow (hdn hs m) r).length ≤ r.length := hidTo_len _ _ _
          have hnum := HJ.out.setNum HA.out.bn HCW.out.2
          have hcn := (hnum 0).1
          have HRT : Aside0 (rowsTo (hdn hs m) l0 (q + 1) = rowsTo (hdn hs m) l0 q ++ [hidRow (hdn hs m) r]) := ⟨by rw [HRE.out]; rfl⟩
          have HL8 : Aside0 (((rowsTo (hdn hs m) l0 q).length + 1) * 24 ≤ 140737488355328) := ⟨by rw [rowsTo_len]; omega⟩
          by_cases hmx : numTo (hdn hs m) l0 n0 q < (hidRow (hdn hs m) r).length
          · have HNT : Aside0 (numTo (hdn hs m) l0 n0 (q + 1) = (hidRow (hdn hs m) r).length) := ⟨by show (if _ then _ else _) = _; rw [← HRE.out, if_pos hmx]⟩
            have hfz := (hnum 0).2.1
            have HJ2 := Aside0.mk (hnum (hidRow (hdn hs m) r).length).2.2
            have hsz : ∀ X, Value.slice (some ⟨wr.heap.size, 0, none⟩) 1 1 = Value.slice (some ⟨(wr.setCell ⟨Bn, 0, none⟩ X).heap.size, 0, none⟩) 1 1 := fun X => by simp
            have hdc : decide ((numTo (hdn hs m) l0 n0 q) < (hidRow (hdn hs m) r).length) = true := decide_eq_true hmx
            clear hnum HJ
            go_wp2_with (first
              | ((with_reducible refine gate_builtin (b := .append) (xs := #[.tmp 51, .tmp 53]) rfl ?_); at_builtin; refine Kd.S_append (Kd.slice 9 Kd.string) (w0 := _) w.heap.size rfl (.tmp 51) (.tmp 53) 138 162 (.slice none 0 0) 24 rfl Try.underlying138 info162 rfl (by decide) (by decide) u6 (rowsTo (hdn hs m) l0 q) (hidRow (hdn hs m) r) [.slice A9 (hidRow (hdn hs m) r).length c9] (fun _ => True) (fun k_ => some k_ = (Value.slice A9 (hidRow (hdn hs m) r).length c9).ownBlock) rfl (hsz _) (Kd.M_row (Kd.R_mono (Kd.R_tight rfl HJ2.out.row) (fun _ h_ => h_))) (fun k_ hk_ => ⟨trivial, ((Kd.R_apart' HJ2.out.row (Kd.S_typed HJ2.out.rows) (by decide)).1 k_ hk_.symm).2⟩) (fun _ _ => trivial) (Kd.S_mono HJ2.out.rows (fun _ hk => ⟨trivial, hk⟩)) (Below.refl _ _) HJ2.out.size HL8.out ?_; intro v1 w1 ho hb hg hat; rw [← HRT.out] at ho; have HJ3 := Aside0.mk (HJ2.out.app2 HB.out ho hg); clear ho hb hg hat))
            go_roundw
            case rel => exact ⟨q + 1, _, by go_num, rfl, by omega, ⟨by rw [HNT.out]; exact HJ3.out⟩⟩
            case measure => simp [intOf]; omega
          · have HNT : Aside0 (numTo (hdn hs m) l0 n0 (q + 1) = numTo (hdn hs m) l0 n0 q) := ⟨by show (if _ then _ else _) = _; rw [← HRE.out, if_neg hmx]⟩
            have hdc : decide ((numTo (hdn hs m) l0 n0 q) < (hidRow (hdn hs m) r).length) = false := decide_eq_false hmx
            clear hnum
            go_wp2_with (first
              | ((with_reducible refine gate_builtin (b := .append) (xs := #[.tmp 51, .tmp 53]) rfl ?_); at_builtin; refine Kd.S_append (Kd.slice 9 Kd.string) (w0 := _) w.heap.size rfl (.tmp 51) (.tmp 53) 138 162 (.slice none 0 0) 24 rfl Try.underlying138 info162 rfl (by decide) (by decide) u6 (rowsTo (hdn hs m) l0 q) (hidRow (hdn hs m) r) [.slice A9 (hidRow (hdn hs m) r).length c9] (fun _ => True) (fun k_ => some k_ = (Value.slice A9 (hidRow (hdn hs m) r).length c9).ownBlock) rfl rfl (Kd.M_row (Kd.R_mono (Kd.R_tight rfl HJ.out.row) (fun _ h_ => h_))) (fun k_ hk_ => ⟨trivial, ((Kd.R_apart' HJ.out.row (Kd.S_typed HJ.out.rows) (by decide)).1 k_ hk_.symm).2⟩) (fun _ _ => trivial) (Kd.S_mono HJ.out.rows (fun _ hk => ⟨trivial, hk⟩)) (Below.refl _ _) HJ.out.size HL8.out ?_; intro v1 w1 ho hb hg hat; rw [← HRT.out] at ho; have HJ3 := Aside0.mk (HJ.out.app2 HB.out ho hg); clear ho hb hg hat))
            go_roundw
            case rel => exact ⟨q + 1, _, by go_num, rfl, by omega, ⟨by rw [HNT.out]; exact HJ3.out⟩⟩
            case measure => simp [intOf]; omega
    · obtain rfl : q = l0.length := by omega
      go_wp2
      go_ret
      exact ⟨_, rfl, HS.out⟩
end Go.Proofs.Ytapbnbinoakbhaa.HidC
