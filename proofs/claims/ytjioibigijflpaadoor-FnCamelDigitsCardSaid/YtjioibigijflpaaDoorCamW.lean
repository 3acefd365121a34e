/-
  Proved: what tw.SplitCamelCase returns of lower letters and digits: their groups. Conditions: at most 400 bytes; the listed tables read as laid.
-/
import Derived.Test.YtjioibigijflpaaDoorCamS
namespace Go.Proofs.YtjioibigijflpaaDoor.CamW
open Go.RowKit Go.Lib Go.Proofs.YtjioibigijflpaaDoorW.PrintWords Go.Proofs.YtjioibigijflpaaDoor.Common Go.Proofs.YtjioibigijflpaaDoor.CamP Go.Proofs.YtjioibigijflpaaDoor.CamS
set_option linter.unusedVariables false
set_option linter.unusedSimpArgs false
set_option maxRecDepth 1000000

def G (l : List UInt8) (p : Nat) : List (List UInt8) := (grp (l.take p)).1
def K (l : List UInt8) (p : Nat) : Nat := (grp (l.take p)).2
theorem step_same {l : List UInt8} {p : Nat} (h : p < l.length) (e : cls l[p] = K l p) : G l (p + 1) = (G l p).set ((G l p).length - 1) (lastG (G l p) ++ [l[p]]) ∧ K l (p + 1) = K l p := by
  unfold G K at *
  rw [grp_step l p h]
  unfold stp
  rw [if_pos e]
  exact ⟨rfl, e⟩
theorem step_new {l : List UInt8} {p : Nat} (h : p < l.length) (e : ¬ cls l[p] = K l p) : G l (p + 1) = G l p ++ [[l[p]]] ∧ K l (p + 1) = cls l[p] := by
  unfold G K at *
  rw [grp_step l p h]
  unfold stp
  rw [if_neg e]
  exact ⟨rfl, rfl⟩
theorem G_all (l : List UInt8) : G l l.length = (grp l).1 := by unfold G; rw [List.take_of_length_le (Nat.le_refl _)]
set_option maxHeartbeats 16000000 in
theorem split_c (l : List UInt8) (hl : l.length ≤ 400) (hok : ∀ c ∈ l, okd c) (w : World) (hT : T w) :
    Calls Tryd.prog 12 #[.string (ofL l)] w fun e w' => ∃ v, e = .returned v ∧ Kd.R Kd.string 9 w' w.heap.size (fun _ => True) v ((grp l).1.map ofL) ∧ Below w.heap.size w w' := by
  have V := Aside0.mk (valid_c l (by omega) hok w w hT (Below.refl _ _))
  have HT := Aside0.mk hT
  have HOK := Aside0.mk hok
  clear hT hok
  go_enter Tryd.func12, Tryd.ntmps12
  go_wp2_with (go_at_call 15; refine V.out.mono ?_; rintro e w1 ⟨rfl, hb⟩; have HB1 := Aside0.mk hb; clear hb)
  have HC0 : Aside0 (C0 w (w1.heap.size + 1) (ofL l) 0 (.slice (some ⟨w1.heap.size, 0, none⟩) 0 0) ((w1.alloc (.cells #[] 9)).iter (ofL l) 0)) := ⟨by
    have e0 := ent0 w1 w.heap.size HB1.out.size
    have hi := World.iter_heap (w1.alloc (.cells #[] 9)) (ofL l) 0
    rw [World.size_alloc] at hi
    have hbi : Below (w1.alloc (.cells #[] 9)).heap.size (w1.alloc (.cells #[] 9)) ((w1.alloc (.cells #[] 9)).iter (ofL l) 0) := below_alloc (Below.refl _ _) _
    exact ⟨hi, Kd.R_below e0 hbi, (HB1.out.trans ((below_alloc (Below.refl _ _) _).mono HB1.out.size)).trans (hbi.mono (by rw [World.size_alloc]; have := HB1.out.size; omega)), by have := HB1.out.size; omega⟩⟩
  go_loopw [3, 4] (fun v3 v4 wr => ∃ (pos k2 : Nat) (u3 : Value), u3 = v3 ∧ Value.int .i64 (k2 : Int) = v4 ∧ pos ≤ l.length ∧ Aside0 (k2 = K l pos) ∧ Aside0 (C0 w (w1.heap.size + 1) (ofL l) pos (.slice (some ⟨w1.heap.size, 0, none⟩) 0 0) wr) ∧ Aside0 (Kd.S RI 68 wr w.heap.size (fun _ => True) u3 (rg (G l pos)))) (fun _ _ wr => l.length - wr.iterPos (w1.heap.size + 1))
  case atStart => exact ⟨0, 0, _, rfl, rfl, by omega, ⟨rfl⟩, HC0, ⟨Kd.S_nil _ _ _ _ _⟩⟩
  case round =>
    obtain ⟨pos, k2, u3, rfl, rfl, hp, HK, HC, HS⟩ := hrel
    clear HC0 V
    have HI := Aside0.mk (inv_take l HOK.out pos hp)
    by_cases hlt : pos < l.length
    · obtain ⟨c, hc⟩ : ∃ c, c = l[pos] := ⟨_, rfl⟩
      have hcok : okd c := HOK.out c (by rw [hc]; exact List.getElem_mem _)
      have hls : pos < (ofL l).size := by rw [ofL_size]; exact hlt
      have hsc : (ofL l)[pos]'hls = c := by rw [hc]; rfl
      obtain ⟨r, hr⟩ : ∃ r, r = c.toNat := ⟨_, rfl⟩
      have hr128 : r < 128 := by rw [hr]; rcases hcok with h | h <;> omega
      have hdec : Utf8.decode (ofL l) pos = (r, 1) := by rw [decode_ascii (ofL l) pos hls (by rw [hsc, ← hr]; exact hr128), hsc, hr]
      have hnx : ∀ ty, (Instr.next (.pointer (some ⟨w1.heap.size + 1, 0, none⟩)) true ty).run Tryd.prog wr = .ok (.tuple #[.bool true, .int .i64 pos, .int .i32 (r : Nat)]) (wr.iterAt (w1.heap.size + 1) (ofL l) (pos + 1)) := fun ty => by
        have := Lib.run_next_any_at (P := Tryd.prog) wr (w1.heap.size + 1) (ofL l) pos ty HC.out.iter hls
        rw [hdec] at this
        exact this
      have HC2 := Aside0.mk HC.out.next
      have HS2 := Aside0.mk (rows_next HC.out.iter HS.out)
      have HME : Aside0 (wr.iterPos (w1.heap.size + 1) = pos) := ⟨by simp only [World.iterPos, HC.out.iter]⟩
      obtain ⟨wn, hwn⟩ : ∃ wn, wn = wr.iterAt (w1.heap.size + 1) (ofL l) (pos + 1) := ⟨_, rfl⟩
      rw [← hwn] at hnx HC2 HS2
      have L := Aside0.mk (low_c r (by omega) w wn HT.out HC2.out.bel)
      have U := Aside0.mk (up_c r (by omega) w wn HT.out HC2.out.bel)
      have D := Aside0.mk (Tryd.unicode_IsDigit (r : Int) wn (by omega))
      have hcl : cls c = if 97 ≤ r then 1 else 3 := by unfold cls; rw [hr]
      have HRC := Aside0.mk (And.intro hr hc)
      have hok2 : (97 ≤ r ∧ r ≤ 122) ∨ (48 ≤ r ∧ r ≤ 57) := by rw [hr]; exact hcok
      have hgl : (G l pos).length ≤ 400 := by have := HI.out.len; rw [List.length_take] at this; unfold G; omega
      clear hwn hdec hsc hls hcok HC HS hr hc
      by_cases h97 : 97 ≤ r
      · rw [if_pos h97] at hcl
        have t1 : Lib.isLowerL (r : Int) = true := decide_eq_true (by omega)
        rw [t1] at L
        clear U D t1 h97
        have HCL := Aside0.mk hcl
        by_cases hkk : 1 = k2
        · subst hkk
          have HST := Aside0.mk (step_same hlt (by rw [← HRC.out.2, hcl]; exact HK.out))
          have hne : G l pos ≠ [] := HI.out.ne (by have := HK.out; unfold K at this; rw [← this]; decide)
          have hg1 := List.length_pos_iff.2 hne
          obtain ⟨n, hn⟩ : ∃ n, (G l pos).length = n + 1 := ⟨(G l pos).length - 1, by omega⟩
          obtain ⟨g, cap, hu, hgb, hgl, X68, hty⟩ := Kd.S_form HS2.out (by rw [rg_len]; omega)
          rw [rg_len, hn] at hu
          subst hu
          have hS' := HS2.out
          rw [← hn] at hS'
          obtain ⟨okr, A, ci, k1, hR, hfr, hback⟩ := last_step hS' hne
          rw [hn, Nat.add_sub_cancel] at k1 hback
          have hql : (lastG (G l pos)).length ≤ 400 := by show (lastG (grp (l.take pos)).1).length ≤ 400; have := (HI.out.gs _ (last_mem _ hne)).2.1; rw [List.length_take] at this; omega
          obtain ⟨q, hq⟩ : ∃ q, q = lastG (G l pos) := ⟨_, rfl⟩
          rw [← hq] at k1 hR hback hql HST
          have HR := Aside0.mk hR
          have HFR := Aside0.mk hfr
          have HBK := Aside0.mk hback
          have hn4 : n ≤ 400 := by omega
          have hw6 : wrap64 (n : Int) = (n : Int) := w64 _ (by omega) (by omega)
          have HTY := Aside0.mk (And.intro hty hn)
          have HL : Aside0 (((ofBs q).length + 1) * 4 ≤ 140737488355328) := ⟨by rw [ofBs_len]; omega⟩
          have hqe : (ofBs q).length = q.length := ofBs_len q
          have HQE := Aside0.mk hqe
          obtain ⟨y, hy⟩ : ∃ y, y = ofBs q ++ [(r : Int)] := ⟨_, rfl⟩
          have HY := Aside0.mk hy
          clear hR hfr hback hty hn hq hqe hy hS' hne hg1 hcl HS2
          go_wp2_with (first
            | (go_at_call 16; refine L.out.mono ?_; rintro e w9 ⟨rfl, hw⟩; replace hw := hw.symm; subst hw)
            | ((with_reducible refine gate_builtin (b := .append) (xs := #[.tmp 44, .tmp 46]) rfl ?_); at_builtin; refine Kd.R_append (Kd.int .i32) (w0 := _) w.heap.size rfl (.tmp 44) (.tmp 46) 68 21 (.int .i32 0) 4 rfl Tryd.underlying68 info21 rfl (by decide) (by decide) (.slice A q.length ci) (ofBs q) (r : Int) [.int .i32 (r : Int)] okr (fun _ => False) rfl rfl rfl (fun _ hk => hk.elim) HFR.out HR.out (Below.refl _ _) HC2.out.bel.size HL.out ?_; intro v1 w2 ho hb hg hat; rw [← HY.out] at ho; obtain ⟨A9, c9, rfl⟩ := Kd.R_slice ho; have hbk := HBK.out w2 _ c (by rw [← HRC.out.1, ← HY.out]; exact ho) hg; obtain ⟨k5, k6, k7, k8, k9⟩ := hbk; have HG1 := Aside0.mk (And.intro hg (And.intro k8 k9)); have HS7 := Aside0.mk k7; clear k7 k8 k9 ho hb hg hat))
          have HC4 := Aside0.mk ((HC2.out.grow HG1.out.1 (fun k hk => ⟨Kd.R_base HR.out k hk, by obtain ⟨X, hX⟩ := Kd.R_typed HR.out k hk; exact ⟨X, 21, hX, by decide⟩⟩)).grow HG1.out.2.1 (fun k hk => by injection hk with hk; subst hk; exact ⟨hgb, X68, 68, HG1.out.2.2.trans HTY.out.1, by decide⟩))
          have HS8 : Aside0 (Kd.S RI 68 _ w.heap.size (fun _ => True) _ (rg (G l (pos + 1)))) := ⟨by rw [HST.out.1, HTY.out.2, Nat.add_sub_cancel, ← HRC.out.2]; exact HS7.out⟩
          have HK2 : Aside0 (1 = K l (pos + 1)) := ⟨by rw [HST.out.2]; exact HK.out⟩
          go_roundw
          case rel => exact ⟨pos + 1, 1, _, rfl, rfl, by omega, HK2, HC4, HS8⟩
          case measure => rw [HME.out, show World.iterPos _ (w1.heap.size + 1) = pos + 1 by simp only [World.iterPos, HC4.out.iter]]; omega
        · have HST := Aside0.mk (step_new hlt (by rw [← HRC.out.2, hcl]; intro e; exact hkk (e.trans HK.out.symm)))
          have hki : ¬ ((1 : Int) = (k2 : Int)) := by omega
          have hkb : ((1 : Int) == (k2 : Int)) = false := beq_eq_false_iff_ne.2 hki
          have HP := Aside0.mk (Kd.M_row (one_rune wn w.heap.size HC2.out.bel.size (r : Int)))
          have HOKP : Aside0 (∀ k, k = wn.heap.size → True ∧ some k ≠ (u3 : Value).ownBlock) := ⟨fun k hk => ⟨trivial, fun e => by have := Kd.S_lt HS2.out k e.symm; omega⟩⟩
          have HSA : Aside0 (Kd.S RI 68 (wn.alloc (.cells #[.int .i32 (r : Int)] 21)) w.heap.size (fun k => True ∧ ¬ k = wn.heap.size) u3 (rg (G l pos))) := ⟨Kd.S_mono (Kd.S_alloc (Kd.S_bound HS2.out) _) (fun k hk => ⟨trivial, by have := hk.2.2.1; omega⟩)⟩
          have HBS : Aside0 (w.heap.size ≤ (wn.alloc (.cells #[.int .i32 (r : Int)] 21)).heap.size) := ⟨by rw [World.size_alloc]; have := HC2.out.bel.size; omega⟩
          have HL : Aside0 (((rg (G l pos)).length + 1) * 24 ≤ 140737488355328) := ⟨by rw [rg_len]; omega⟩
          have hsz : ∀ X, Value.slice (some ⟨wn.heap.size + 1, 0, none⟩) 1 1 = Value.slice (some ⟨(wn.alloc X).heap.size, 0, none⟩) 1 1 := fun X => by simp
          have HY : Aside0 (rg (G l (pos + 1)) = rg (G l pos) ++ [[(r : Int)]]) := ⟨by rw [HST.out.1, rg_snoc, ← HRC.out.2, HRC.out.1]; rfl⟩
          clear hcl hkk
          go_wp2_with (first
            | (go_at_call 16; refine L.out.mono ?_; rintro e w9 ⟨rfl, hw⟩; replace hw := hw.symm; subst hw)
            | ((with_reducible refine gate_builtin (b := .append) (xs := #[.tmp 49, .tmp 52]) rfl ?_); at_builtin; refine Kd.S_append RI (w0 := _) w.heap.size rfl (.tmp 49) (.tmp 52) 66 68 (.slice none 0 0) 24 rfl Tryd.underlying66 info68 rfl (by decide) (by decide) u3 (rg (G l pos)) [(r : Int)] [.slice (some ⟨wn.heap.size, 0, none⟩) 1 1] (fun _ => True) (fun k => k = wn.heap.size) rfl (hsz _) HP.out HOKP.out (fun _ _ => trivial) HSA.out (Below.refl _ _) HBS.out HL.out ?_; intro v1 w2 ho hb hg hat; rw [← HY.out] at ho; obtain ⟨A9, c9, rfl⟩ := Kd.S_slice ho; have HG1 := Aside0.mk hg; have HS8 := Aside0.mk ho; clear ho hb hg hat))
          have HC4 := Aside0.mk ((HC2.out.on (below_alloc (Below.refl _ _) _)).grow HG1.out (fun k hk => ⟨Kd.S_base HSA.out k hk, by obtain ⟨X, hX⟩ := Kd.S_typed HSA.out k hk; exact ⟨X, 68, hX, by decide⟩⟩))
          have HK2 : Aside0 (1 = K l (pos + 1)) := ⟨by rw [HST.out.2, ← HRC.out.2]; exact HCL.out.symm⟩
          go_roundw
          case rel => exact ⟨pos + 1, 1, _, rfl, rfl, by omega, HK2, HC4, HS8⟩
          case measure => rw [HME.out, show World.iterPos _ (w1.heap.size + 1) = pos + 1 by simp only [World.iterPos, HC4.out.iter]]; omega
      · rw [if_neg h97] at hcl
        have t1 : Lib.isLowerL (r : Int) = false := decide_eq_false (by omega)
        have t2 : Lib.isUpperL (r : Int) = false := decide_eq_false (by omega)
        have t3 : Lib.isDigitL (r : Int) = true := decide_eq_true (by omega)
        rw [t1] at L
        rw [t2] at U
        rw [t3] at D
        clear t1 t2 t3 h97
        have HCL := Aside0.mk hcl
        by_cases hkk : 3 = k2
        · subst hkk
          have HST := Aside0.mk (step_same hlt (by rw [← HRC.out.2, hcl]; exact HK.out))
          have hne : G l pos ≠ [] := HI.out.ne (by have := HK.out; unfold K at this; rw [← this]; decide)
          have hg1 := List.length_pos_iff.2 hne
          obtain ⟨n, hn⟩ : ∃ n, (G l pos).length = n + 1 := ⟨(G l pos).length - 1, by omega⟩
          obtain ⟨g, cap, hu, hgb, hgl, X68, hty⟩ := Kd.S_form HS2.out (by rw [rg_len]; omega)
          rw [rg_len, hn] at hu
          subst hu
          have hS' := HS2.out
          rw [← hn] at hS'
          obtain ⟨okr, A, ci, k1, hR, hfr, hback⟩ := last_step hS' hne
          rw [hn, Nat.add_sub_cancel] at k1 hback
          have hql : (lastG (G l pos)).length ≤ 400 := by show (lastG (grp (l.take pos)).1).length ≤ 400; have := (HI.out.gs _ (last_mem _ hne)).2.1; rw [List.length_take] at this; omega
          obtain ⟨q, hq⟩ : ∃ q, q = lastG (G l pos) := ⟨_, rfl⟩
          rw [← hq] at k1 hR hback hql HST
          have HR := Aside0.mk hR
          have HFR := Aside0.mk hfr
          have HBK := Aside0.mk hback
          have hn4 : n ≤ 400 := by omega
          have hw6 : wrap64 (n : Int) = (n : Int) := w64 _ (by omega) (by omega)
          have HTY := Aside0.mk (And.intro hty hn)
          have HL : Aside0 (((ofBs q).length + 1) * 4 ≤ 140737488355328) := ⟨by rw [ofBs_len]; omega⟩
          have hqe : (ofBs q).length = q.length := ofBs_len q
          have HQE := Aside0.mk hqe
          obtain ⟨y, hy⟩ : ∃ y, y = ofBs q ++ [(r : Int)] := ⟨_, rfl⟩
          have HY := Aside0.mk hy
          clear hR hfr hback hty hn hq hqe hy hS' hne hg1 hcl HS2
          go_wp2_with (first
            | (go_at_call 16; refine L.out.mono ?_; rintro e w9 ⟨rfl, hw⟩; replace hw := hw.symm; subst hw) | (go_at_call 17; refine U.out.mono ?_; rintro e w9 ⟨rfl, hw⟩; replace hw := hw.symm; subst hw) | (go_at_call 18; refine D.out.mono ?_; rintro e w9 ⟨rfl, hw⟩; replace hw := hw.symm; subst hw)
            | ((with_reducible refine gate_builtin (b := .append) (xs := #[.tmp 44, .tmp 46]) rfl ?_); at_builtin; refine Kd.R_append (Kd.int .i32) (w0 := _) w.heap.size rfl (.tmp 44) (.tmp 46) 68 21 (.int .i32 0) 4 rfl Tryd.underlying68 info21 rfl (by decide) (by decide) (.slice A q.length ci) (ofBs q) (r : Int) [.int .i32 (r : Int)] okr (fun _ => False) rfl rfl rfl (fun _ hk => hk.elim) HFR.out HR.out (Below.refl _ _) HC2.out.bel.size HL.out ?_; intro v1 w2 ho hb hg hat; rw [← HY.out] at ho; obtain ⟨A9, c9, rfl⟩ := Kd.R_slice ho; have hbk := HBK.out w2 _ c (by rw [← HRC.out.1, ← HY.out]; exact ho) hg; obtain ⟨k5, k6, k7, k8, k9⟩ := hbk; have HG1 := Aside0.mk (And.intro hg (And.intro k8 k9)); have HS7 := Aside0.mk k7; clear k7 k8 k9 ho hb hg hat))
          have HC4 := Aside0.mk ((HC2.out.grow HG1.out.1 (fun k hk => ⟨Kd.R_base HR.out k hk, by obtain ⟨X, hX⟩ := Kd.R_typed HR.out k hk; exact ⟨X, 21, hX, by decide⟩⟩)).grow HG1.out.2.1 (fun k hk => by injection hk with hk; subst hk; exact ⟨hgb, X68, 68, HG1.out.2.2.trans HTY.out.1, by decide⟩))
          have HS8 : Aside0 (Kd.S RI 68 _ w.heap.size (fun _ => True) _ (rg (G l (pos + 1)))) := ⟨by rw [HST.out.1, HTY.out.2, Nat.add_sub_cancel, ← HRC.out.2]; exact HS7.out⟩
          have HK2 : Aside0 (3 = K l (pos + 1)) := ⟨by rw [HST.out.2]; exact HK.out⟩
          go_roundw
          case rel => exact ⟨pos + 1, 3, _, rfl, rfl, by omega, HK2, HC4, HS8⟩
          case measure => rw [HME.out, show World.iterPos _ (w1.heap.size + 1) = pos + 1 by simp only [World.iterPos, HC4.out.iter]]; omega
        · have HST := Aside0.mk (step_new hlt (by rw [← HRC.out.2, hcl]; intro e; exact hkk (e.trans HK.out.symm)))
          have hki : ¬ ((3 : Int) = (k2 : Int)) := by omega
          have hkb : ((3 : Int) == (k2 : Int)) = false := beq_eq_false_iff_ne.2 hki
          have HP := Aside0.mk (Kd.M_row (one_rune wn w.heap.size HC2.out.bel.size (r : Int)))
          have HOKP : Aside0 (∀ k, k = wn.heap.size → True ∧ some k ≠ (u3 : Value).ownBlock) := ⟨fun k hk => ⟨trivial, fun e => by have := Kd.S_lt HS2.out k e.symm; omega⟩⟩
          have HSA : Aside0 (Kd.S RI 68 (wn.alloc (.cells #[.int .i32 (r : Int)] 21)) w.heap.size (fun k => True ∧ ¬ k = wn.heap.size) u3 (rg (G l pos))) := ⟨Kd.S_mono (Kd.S_alloc (Kd.S_bound HS2.out) _) (fun k hk => ⟨trivial, by have := hk.2.2.1; omega⟩)⟩
          have HBS : Aside0 (w.heap.size ≤ (wn.alloc (.cells #[.int .i32 (r : Int)] 21)).heap.size) := ⟨by rw [World.size_alloc]; have := HC2.out.bel.size; omega⟩
          have HL : Aside0 (((rg (G l pos)).length + 1) * 24 ≤ 140737488355328) := ⟨by rw [rg_len]; omega⟩
          have hsz : ∀ X, Value.slice (some ⟨wn.heap.size + 1, 0, none⟩) 1 1 = Value.slice (some ⟨(wn.alloc X).heap.size, 0, none⟩) 1 1 := fun X => by simp
          have HY : Aside0 (rg (G l (pos + 1)) = rg (G l pos) ++ [[(r : Int)]]) := ⟨by rw [HST.out.1, rg_snoc, ← HRC.out.2, HRC.out.1]; rfl⟩
          clear hcl hkk
          go_wp2_with (first
            | (go_at_call 16; refine L.out.mono ?_; rintro e w9 ⟨rfl, hw⟩; replace hw := hw.symm; subst hw) | (go_at_call 17; refine U.out.mono ?_; rintro e w9 ⟨rfl, hw⟩; replace hw := hw.symm; subst hw) | (go_at_call 18; refine D.out.mono ?_; rintro e w9 ⟨rfl, hw⟩; replace hw := hw.symm; subst hw)
            | ((with_reducible refine gate_builtin (b := .append) (xs := #[.tmp 49, .tmp 52]) rfl ?_); at_builtin; refine Kd.S_append RI (w0 := _) w.heap.size rfl (.tmp 49) (.tmp 52) 66 68 (.slice none 0 0) 24 rfl Tryd.underlying66 info68 rfl (by decide) (by decide) u3 (rg (G l pos)) [(r : Int)] [.slice (some ⟨wn.heap.size, 0, none⟩) 1 1] (fun _ => True) (fun k => k = wn.heap.size) rfl (hsz _) HP.out HOKP.out (fun _ _ => trivial) HSA.out (Below.refl _ _) HBS.out HL.out ?_; intro v1 w2 ho hb hg hat; rw [← HY.out] at ho; obtain ⟨A9, c9, rfl⟩ := Kd.S_slice ho; have HG1 := Aside0.mk hg; have HS8 := Aside0.mk ho; clear ho hb hg hat))
          have HC4 := Aside0.mk ((HC2.out.on (below_alloc (Below.refl _ _) _)).grow HG1.out (fun k hk => ⟨Kd.S_base HSA.out k hk, by obtain ⟨X, hX⟩ := Kd.S_typed HSA.out k hk; exact ⟨X, 68, hX, by decide⟩⟩))
          have HK2 : Aside0 (3 = K l (pos + 1)) := ⟨by rw [HST.out.2, ← HRC.out.2]; exact HCL.out.symm⟩
          go_roundw
          case rel => exact ⟨pos + 1, 3, _, rfl, rfl, by omega, HK2, HC4, HS8⟩
          case measure => rw [HME.out, show World.iterPos _ (w1.heap.size + 1) = pos + 1 by simp only [World.iterPos, HC4.out.iter]]; omega
    · have hls : ¬ pos < (ofL l).size := by rw [ofL_size]; exact hlt
      have hnx : ∀ ty, (Instr.next (.pointer (some ⟨w1.heap.size + 1, 0, none⟩)) true ty).run Tryd.prog wr = _ := fun ty => Lib.run_next_end_at wr (w1.heap.size + 1) (ofL l) pos ty HC.out.iter hls
      obtain rfl : pos = l.length := by omega
      clear hls
      have HGI : Aside0 (∀ g ∈ G l l.length, g ≠ [] ∧ g.length ≤ 400 ∧ ∀ c ∈ g, okd c) := ⟨fun g hg => by
        obtain ⟨a, b, d⟩ := HI.out.gs g hg
        rw [List.take_of_length_le (Nat.le_refl _)] at b
        exact ⟨a, by omega, d⟩⟩
      have hgl : (G l l.length).length ≤ 400 := by have := HI.out.len; rw [List.length_take] at this; unfold G; omega
      have HGA := Aside0.mk (G_all l)
      obtain ⟨gs, hgs⟩ : ∃ gs, gs = G l l.length := ⟨_, rfl⟩
      rw [← hgs] at HS HGI hgl HGA
      have HGS := Aside0.mk hgs
      obtain ⟨A3, c3, hu3⟩ := Kd.S_slice HS.out
      rw [rg_len] at hu3
      subst hu3
      obtain ⟨m, hm⟩ : ∃ m, m = gs.length := ⟨_, rfl⟩
      have HM := Aside0.mk hm
      rw [← hm] at HS hgl ⊢
      have hwm : wrap64 ((m : Int) - 1) = (m : Int) - 1 := w64 _ (by omega) (by omega)
      have HU := fun r (hr : (97 ≤ r ∧ r ≤ 122) ∨ (48 ≤ r ∧ r ≤ 57)) => Aside0.mk (up_c r (by omega) w wr HT.out HC.out.bel)
      clear hgs hm HI
      go_wp2
      go_loopw [8] (fun i wi => ∃ q : Nat, Value.int .i64 (q : Int) = i ∧ q ≤ m ∧ wr = wi) (fun i _ => m - (intOf i).toNat)
      case atStart => exact ⟨0, rfl, by omega, rfl⟩
      case round =>
        obtain ⟨q, rfl, hqm, rfl⟩ := hrel
        by_cases hq1 : (q : Int) < (m : Int) - 1
        · have hql : q < gs.length := by rw [← HM.out]; omega
          obtain ⟨hne, hz4, hzk⟩ := HGI.out _ (List.getElem_mem hql)
          have HSm := HS.out
          rw [HM.out] at HSm
          obtain ⟨ad, ad0, c0, rfl, k1, k2⟩ := group_at (A3 := 0) HSm q hql hne
          have hp0 := List.length_pos_iff.2 hne
          have k3 := k2 0 hp0
          obtain ⟨x, hx⟩ : ∃ x, x = ((gs[q])[0]).toNat := ⟨_, rfl⟩
          have hxk : (97 ≤ x ∧ x ≤ 122) ∨ (48 ≤ x ∧ x ≤ 57) := by rw [hx]; exact hzk _ (List.getElem_mem hp0)
          rw [← hx] at k3
          have k4 : wr.cell? ad0 = some (.int .i32 (x : Int)) := by
            rw [show ad0.add 0 = ad0 from by cases ad0 with | mk b o s => (cases s <;> rfl)] at k3
            exact k3
          obtain ⟨zl, hzl⟩ : ∃ zl, zl = (gs[q]).length := ⟨_, rfl⟩
          rw [← hzl] at k1 hz4 hp0
          have HUx := HU x hxk
          have t2 : Lib.isUpperL (x : Int) = false := decide_eq_false (by omega)
          rw [t2] at HUx
          clear hzk k2 hx hzl HSm t2 hne HU
          go_wp2_with (go_at_call 17; refine HUx.out.mono ?_; rintro e w9 ⟨rfl, hw⟩; replace hw := hw.symm; subst hw)
          go_roundw
          case rel => exact ⟨q + 1, by go_num, by omega, by first | rfl | trivial⟩
          case measure => simp [intOf]; omega
        · have HR0 : Aside0 (Kd.R Kd.string 9 wr w.heap.size (fun _ => True) (.slice (some ⟨w1.heap.size, 0, none⟩) 0 0) ((gs.take 0).map ofL)) := ⟨HC.out.ent⟩
          have HB0 := Aside0.mk HC.out.bel
          clear HU hwm
          go_wp2
          go_loopw [2, 118] (fun v2 i wi => ∃ (q : Nat) (u2 : Value), Value.int .i64 (q : Int) = i ∧ u2 = v2 ∧ q ≤ m ∧ Aside0 (Kd.R Kd.string 9 wi w.heap.size (fun _ => True) u2 ((gs.take q).map ofL)) ∧ Aside0 (Kd.S RI 68 wi w.heap.size (fun _ => True) (.slice A3 m c3) (rg gs)) ∧ Aside0 (Below w.heap.size w wi)) (fun _ i _ => m - (intOf i).toNat)
          case atStart => exact ⟨0, _, rfl, rfl, by omega, HR0, HS, HB0⟩
          case round =>
            obtain ⟨j, u2, rfl, rfl, hjm, HR, HS3, HB3⟩ := hrel
            clear HR0 HB0 HS HC
            by_cases hjl0 : j < m
            · have hjl : j < gs.length := by rw [← HM.out]; exact hjl0
              obtain ⟨hne, hz4, hzk⟩ := HGI.out _ (List.getElem_mem hjl)
              have HSm := HS3.out
              rw [HM.out] at HSm
              obtain ⟨ad, ad0, c0, rfl, k1, k2⟩ := group_at (A3 := 0) HSm j hjl hne
              obtain ⟨z, hz⟩ : ∃ z, z = gs[j] := ⟨_, rfl⟩
              have hpz : 0 < z.length := by rw [hz]; exact List.length_pos_iff.2 hne
              have hcv : (convert 68 9 (.slice (some ad0) z.length c0)).run Tryd.prog wr = .ok (.string (ofL z)) wr := by rw [hz]; exact conv_at hzk k2
              rw [← hz] at k1 hz4 hzk
              have HSP := fun W (hb : Below w.heap.size w W) => Aside0.mk (space_c z (by omega) hzk w W HT.out hb)
              have hgt : gs.take (j + 1) = gs.take j ++ [z] := by rw [hz]; exact List.take_succ_eq_append_getElem hjl
              obtain ⟨y, hy⟩ : ∃ y, y = ofL z := ⟨_, rfl⟩
              have hyl : y.toList = z := by rw [hy, tl, ofL_data]
              have hy1 : (y.toList == []) = false := beq_eq_false_iff_ne.2 (by rw [hyl]; intro e; rw [e] at hpz; cases hpz)
              have hy2 : (y.toList == [95]) = false := beq_eq_false_iff_ne.2 (by
                rw [hyl]; intro e
                have := hzk 95 (by rw [e]; simp)
                revert this; unfold okd; decide)
              have hy3 : ¬ y = ByteArray.empty := fun e => by rw [e] at hy1; simp at hy1
              have hye : y.toList.isEmpty = false := by rw [hyl]; cases z with | nil => cases hpz | cons _ _ => rfl
              have HTK : Aside0 ((gs.take (j + 1)).map ofL = (gs.take j).map ofL ++ [y]) := ⟨by rw [hgt, List.map_append, hy]; rfl⟩
              have HL : Aside0 ((((gs.take j).map ofL).length + 1) * 16 ≤ 140737488355328) := ⟨by rw [List.length_map, List.length_take]; omega⟩
              rw [← hy] at hcv HSP
              clear hzk k2 hz hgt hy hyl HSm hne
              go_wp2_with (first
                | (go_at_call 19; refine (HSP _ HB3.out).out.mono ?_; rintro e w5 ⟨rfl, hb⟩; have HB5 := Aside0.mk hb; clear hb)
                | ((with_reducible refine gate_builtin (b := .append) (xs := #[.tmp 136, .tmp 138]) rfl ?_); at_builtin; refine Kd.R_append Kd.string (w0 := _) w.heap.size rfl (.tmp 136) (.tmp 138) 31 9 (.string ⟨#[]⟩) 16 rfl Tryd.underlying31 info9 rfl (by decide) (by decide) u2 ((gs.take j).map ofL) y [.string y] (fun _ => True) (fun _ => False) rfl rfl rfl (fun _ hk => hk.elim) (fun _ _ => trivial) (Kd.R_below HR.out HB5.out) (Below.refl _ _) (Nat.le_trans HB3.out.size HB5.out.size) HL.out ?_; intro v1 w6 ho hb hg hat; rw [← HTK.out] at ho; have HR6 := Aside0.mk ho; have HG6 := Aside0.mk hg; clear ho hb hg hat))
              have HS6 := Aside0.mk (Kd.S_over' (Kd.S_below HS3.out HB5.out) (Kd.R_typed (Kd.R_below HR.out HB5.out)) (by decide) HG6.out)
              have HB6 := Aside0.mk ((HB3.out.trans (HB5.out.mono HB3.out.size)).grown HG6.out (Nat.le_trans HB3.out.size HB5.out.size) (Kd.R_base HR.out))
              go_roundw
              case rel => exact ⟨j + 1, _, by go_num, rfl, by omega, HR6, HS6, HB6⟩
              case measure => simp [intOf]; omega
            · obtain rfl : j = m := by omega
              have HRE : Aside0 (Kd.R Kd.string 9 wr w.heap.size (fun _ => True) u2 ((grp l).1.map ofL)) := ⟨by
                have := HR.out
                rw [List.take_of_length_le (by rw [HM.out]; exact Nat.le_refl _), HGA.out] at this
                exact this⟩
              go_wp2
              go_ret
              exact ⟨_, rfl, HRE.out, HB3.out⟩
end Go.Proofs.YtjioibigijflpaaDoor.CamW
