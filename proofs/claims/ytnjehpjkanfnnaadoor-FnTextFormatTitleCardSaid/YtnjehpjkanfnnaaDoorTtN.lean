/-
  Proved: strings.Map with a closure that keeps the character ahead in a variable of its own: what it returns. Conditions: every character valid and good; what the closure is asked for stands in Clo.
-/
import Derived.Test.YtnjehpjkanfnnaaDoorTtM
namespace Go.Proofs.YtnjehpjkanfnnaaDoor.TtN
open Go Go.RowKit Go.Proofs.YtnjehpjkanfnnaaDoor.TtM
set_option linter.unusedVariables false
set_option linter.unusedSimpArgs false
set_option maxRecDepth 1000000
theorem wrs (A b : Nat) (bs : List Value) (s : ByteArray) (w : World) (h : Lib.IsBuilderF 39 5 A b bs w) (hlen : bs.length + s.size ≤ 140737488355328) (hB : A ≤ w.heap.size) :
    Calls Tryd.prog 21 #[.pointer (some ⟨b, 0, none⟩), .string s] w fun e w' => e = .returned (.tuple #[.int .i64 s.size, .nilIface]) ∧ (Lib.BuilderAtF 39 5 A b (.pointer (some ⟨b, 0, none⟩)) (bs ++ Lib.strCells s) w' ∧ Below A w w' ∧ Lib.OthersKept 5 (some b) w w') :=
  Any.Builder_WriteString_k { Tryd.lays230 with } Tryd.Builder_Extra_230 A b bs s w h hlen hB
theorem wrr (A b : Nat) (bs : List Value) (r : Int) (h0 : -2147483648 ≤ r) (h1 : r ≤ 2147483647) (w : World) (h : Lib.IsBuilderF 39 5 A b bs w) (hlen : bs.length + 4 ≤ 140737488355328) (hB : A ≤ w.heap.size) :
    Calls Tryd.prog 34 #[.pointer (some ⟨b, 0, none⟩), .int .i32 r] w fun e w' => e = .returned (.tuple #[.int .i64 (Lib.runeCells r).length, .nilIface]) ∧ (Lib.BuilderAtF 39 5 A b (.pointer (some ⟨b, 0, none⟩)) (bs ++ Lib.runeCells r) w' ∧ Below A w w' ∧ Lib.OthersKept 5 (some b) w w') :=
  Any.Builder_WriteRune_k { Tryd.lays230 with } Tryd.Builder_Extra_230 A b bs r h0 h1 w h hlen hB
theorem wrb (A b : Nat) (bs : List Value) (c : Int) (w : World) (h : Lib.IsBuilderF 39 5 A b bs w) (hlen : bs.length + 1 ≤ 140737488355328) (hB : A ≤ w.heap.size) :
    Calls Tryd.prog 22 #[.pointer (some ⟨b, 0, none⟩), .int .u8 c] w fun e w' => e = .returned .nilIface ∧ (Lib.BuilderAtF 39 5 A b (.pointer (some ⟨b, 0, none⟩)) (bs ++ [.int .u8 c]) w' ∧ Below A w w' ∧ Lib.OthersKept 5 (some b) w w') :=
  Any.Builder_WriteByte_k { Tryd.lays230 with } Tryd.Builder_Extra_230 A b bs c w h hlen hB
theorem fresh_in {wx : World} {k : Nat} {o : Obj} (h : wx.heap[k]? = some o) : k < wx.heap.size := (Array.getElem?_eq_some_iff.1 h).1
set_option maxHeartbeats 4000000 in
theorem map_c (B bi bp : Nat) (w0 : World) (Q : Int → Prop) (g : Int → Nat → Int) (hC : Clo bi bp Q g) (hg : ∀ (p : Int) (x : Nat), Q p → Q (x : Int) → 0 ≤ g p x ∧ g p x ≤ 2147483647)
    (hBi : B ≤ bi) (hBp : B ≤ bp) (hne : bi ≠ bp) (s : ByteArray) (rs : List Nat) (p0 : Int) (w : World) (hs : s.size < 35184372088832) (hr : RsOf s.data.toList rs) (hq : ∀ r ∈ rs, Q ((r : Nat) : Int)) (hq0 : Q p0)
    (hv : Vars B bi bp w0 p0 w) :
    Calls Tryd.prog 24 #[.func (.func 26) #[] #[.pointer (some ⟨bi, 0, none⟩), .pointer (some ⟨bp, 0, none⟩)], .string s] w fun e w' => e = .returned (.string ⟨(mapR g p0 rs).toArray⟩) ∧ Below B w0 w' := by
  have eg : ∀ args w, (callFunc 26 args).run Tryd.prog w = .ok (.enter 26 args) w := enters_of Tryd.func26 (by kernel_rfl) rfl
  obtain ⟨ANS, hANS⟩ : ∃ ANS, mapR g p0 rs = ANS := ⟨_, rfl⟩
  rw [hANS]
  have hlen : s.data.toList.length = s.size := (Lib.size_eq s).symm
  have hbiw := fresh_in hv.ci
  have hbpw := fresh_in hv.cp
  have hBw : B ≤ w.heap.size := by omega
  go_enter Tryd.func24, Tryd.ntmps24
  go_wp2
  go_loopg [1] s.size (fun gk s1 wx => s1 = .string s ∧ ∃ (pos : Nat) (p : Int) (rs : List Nat), wx.heap[w.heap.size]? = some (.cells #[.pointer none, .slice none 0 0] 39 (0, 0)) ∧ wx.heap[w.heap.size + 1]? = some (.stringIter s pos) ∧ Vars B bi bp w0 p wx ∧
    s.data.toList.take pos ++ mapR g p rs = ANS ∧ s.size ≤ pos + gk ∧ pos ≤ s.size ∧ RsOf (s.data.toList.drop pos) rs ∧ (∀ r ∈ rs, Q ((r : Nat) : Int)) ∧ Q p)
  case atStart =>
    have hb1 : Below w.heap.size w ((w.alloc (.cells #[.pointer none, .slice none 0 0] 39)).iter s 0) := ((Below.refl _ w).alloc (Nat.le_refl _) _).alloc (by simp) _
    refine ⟨rfl, 0, p0, rs, ?_, ?_, hv.on hb1 hBw hbiw hbpw, by simpa using hANS, by omega, by omega, by simpa using hr, hq, hq0⟩
    · have h1 := heap_alloc_new w (.cells #[.pointer none, .slice none 0 0] 39)
      exact (Below.heap_alloc _ _ _ (by simp)).trans h1
    · have := World.iter_heap (w.alloc (.cells #[.pointer none, .slice none 0 0] 39)) s 0
      simpa using this
  case round =>
    obtain ⟨rfl, pos, p, rs1, hfr, hit, hvr, hsp, hfu, hps, hrs, hqs, hqp⟩ := hrel
    cases rs1 with
    | nil =>
      have hd := rs_nil hrs
      have hps2 : pos = s.size := by
        have := congrArg List.length hd
        rw [List.length_drop, hlen] at this
        simp at this
        omega
      subst hps2
      have hnx : ∀ ty, (Instr.next (.pointer (some ⟨w.heap.size + 1, 0, none⟩)) true ty).run Tryd.prog wr = _ := fun ty => Lib.run_next_end_at wr (w.heap.size + 1) s s.size ty hit (by omega)
      have cC := Tryd.Builder_Cap_cell w.heap.size none 0 0 wr (by rw [Lib.cell_of_heap hfr]; rfl)
      go_wp2_with (go_at_call 35; refine cC.mono ?_; rintro e W3 ⟨rfl, hW⟩; have hW2 := hW.symm; subst hW2)
      go_ret
      refine ⟨?_, hvr.bel⟩
      rw [← hsp, ← hlen, List.take_length]
      rw [show mapR g p [] = [] from rfl, List.append_nil]
      rfl
    | cons R rs2 =>
      obtain ⟨hne2, hRe, hrs2, hR5⟩ := rs_ne hrs
      have hQR := hqs R (by simp)
      have hlt : pos < s.size := by
        rcases Nat.lt_or_ge pos s.size with h | h
        · exact h
        · exact absurd (by apply List.eq_nil_of_length_eq_zero; rw [List.length_drop, hlen]; omega) hne2
      have hnx : ∀ ty, (Instr.next (.pointer (some ⟨w.heap.size + 1, 0, none⟩)) true ty).run Tryd.prog wr = _ := fun ty => Lib.run_next_any_at wr (w.heap.size + 1) s pos ty hit hlt
      have hwd := Lib.width_pos s pos
      have hwn : pos + (Utf8.decode s pos).2 ≤ s.size := by
        have := Lib.decodeL_le _ hne2
        rw [Lib.decodeL_drop, List.length_drop, hlen] at this
        omega
      have hrl := Lib.rune_le s pos
      have hrlen := Lib.runeLen_decode (s.data.toList.drop pos)
      have hen := Lib.encode_decode (s.data.toList.drop pos) hne2 (fun h => hR5 (hRe.trans h.1))
      rw [← hRe] at hen hrlen
      rw [Lib.decodeL_drop] at hRe hrs2 hrlen hen
      rw [← hRe] at hnx hrl
      obtain ⟨K, hK⟩ : ∃ K, (Utf8.decode s pos).2 = K := ⟨_, rfl⟩
      rw [hK] at hnx hrs2 hrlen hen hwd hwn
      rw [List.drop_drop] at hrs2
      have hit2 := Lib.iterAt_heap wr (w.heap.size + 1) s pos (pos + K) hit
      have hbw2 := Lib.below_iterAt (Below.refl (w.heap.size + 1) wr) (k := w.heap.size + 1) (by omega) s (pos + K)
      have hfr2 : (wr.iterAt (w.heap.size + 1) s (pos + K)).heap[w.heap.size]? = _ := (Lib.iterAt_other wr (w.heap.size + 1) w.heap.size s (pos + K) (by omega)).trans hfr
      have hv2 := hvr.on hbw2 (by omega) (by omega) (by omega)
      obtain ⟨W, hWd⟩ : ∃ W, wr.iterAt (w.heap.size + 1) s (pos + K) = W := ⟨_, rfl⟩
      rw [hWd] at hnx hit2 hfr2 hv2
      have hszW := fresh_in hit2
      have cS := hC W p R hqp hQR hv2.ci hv2.cp
      obtain ⟨hM0, hM1⟩ := hg p R hqp hQR
      obtain ⟨M, hM⟩ : ∃ M, g p R = M := ⟨_, rfl⟩
      rw [hM] at cS hM0 hM1
      have hsp2 : s.data.toList.take pos ++ (Lib.encodeRune M ++ mapR g R rs2) = ANS := by rw [← hsp, ← hM]; rfl
      have hR5' : ¬ ((R : Int) = 65533) := by omega
      have hRb : ((R : Int) != 65533) = true := by simp; omega
      clear hit hfr hvr hWd hbw2 hRe hsp
      by_cases hMR : M = (R : Int)
      · subst hMR
        have HS : Aside (s.data.toList.take (pos + K) ++ mapR g R rs2 = ANS) := by
          show _ = _
          rw [← hsp2, hen, ← List.append_assoc, ← List.take_add]
        clear hsp2 hen hrlen
        go_wp2_with (go_at_call 26; refine cS.mono ?_; rintro e W3 ⟨rfl, hgw, hcw⟩)
        go_roundg (gk - 1)
        case measure => omega
        case rel =>
          exact ⟨rfl, pos + K, R, rs2, (hgw.block _ (by omega) (fun e => by cases e; omega)).trans hfr2, (hgw.block _ (by omega) (fun e => by cases e; omega)).trans hit2, hv2.call hgw hcw hBi hBp hne, HS.out, by omega, hwn, hrs2, fun r h => hqs r (by simp [h]), hQR⟩
      · have HS : Aside (s.data.toList.take pos ++ (Lib.encodeRune M ++ mapR g R rs2) = ANS) := hsp2
        clear hsp2 hen
        have cR := Tryd.utf8_RuneLen (R : Int)
        rw [hrlen hR5] at cR
        clear hrlen
        go_wp2_with (first
          | (go_at_call 26; refine cS.mono ?_; rintro e W3 ⟨rfl, hgw, hcw⟩)
          | (go_at_call 33; refine (cR _).mono ?_; rintro e W4 ⟨rfl, hW⟩; subst hW))
        have hfr4 := (hgw.block _ (by omega) (fun e => by cases e; omega)).trans hfr2
        have hv4 := hv2.call hgw hcw hBi hBp hne
        have hsz4 : w.heap.size < W4.heap.size := fresh_in hfr4
        clear cS cR hnx hit2 hfr2 hv2 hgw hcw
        have hxs : (s.extract 0 pos).size = pos := by rw [Lib.size_eq, Lib.extract_data, List.length_take, List.length_drop, hlen]; omega
        have hxd : (s.extract 0 pos).data.toList = s.data.toList.take pos := by rw [Lib.extract_data]; simp
        have hl6 : ([] ++ Lib.strCells (s.extract 0 pos)).length = pos := by simp [Lib.strCells_length, hxs]
        have hM0' : ¬ (M < 0) := by omega
        have hM0b : decide (0 ≤ M) = true := decide_eq_true hM0
        have hcells : [] ++ Lib.strCells (s.extract 0 pos) ++ Lib.runeCells M = Lib.byteCells (s.data.toList.take pos ++ Lib.encodeRune M) := by
          rw [List.nil_append, Lib.strCells_eq, hxd, Lib.byteCells_append, Lib.byteCells_encodeRune]
        have hr1 := enc_pos M
        have hr4 := enc_four M
        have hpk : ((pos : Int) + (K : Int)).toNat = pos + K := by omega
        obtain ⟨s2, hs2⟩ : ∃ s2, s.extract (pos + K) s.size = s2 := ⟨_, rfl⟩
        have hl2 : s2.data.toList = s.data.toList.drop (pos + K) := by
          rw [← hs2, Lib.extract_data, List.take_of_length_le (by rw [List.length_drop, hlen]; omega)]
        have hz2 : s2.size = s.size - (pos + K) := by rw [Lib.size_eq, hl2, List.length_drop, hlen]
        go_wp2_with (first
          | (go_at_call 20; refine (Tryd.Builder_Grow_fresh w.heap.size w.heap.size (s.size + 4) W4 (Nat.le_refl _) hfr4 (by omega) (by omega)).mono ?_
             rintro e W5 ⟨rfl, h5, b5⟩
             have hv5 := hv4.on b5 hBw hbiw hbpw
             have hsz5 := b5.size)
          | (go_at_call 21; refine (wrs w.heap.size w.heap.size [] (s.extract 0 pos) W5 (Lib.IsBuilderF.of (Or.inr h5)) (by rw [hxs]; simp; omega) (by omega)).mono ?_
             rintro e W6 ⟨rfl, h6, b6, -⟩
             have hv6 := hv5.on b6 hBw hbiw hbpw
             have hsz6 := b6.size)
          | (go_at_call 34; refine (wrr w.heap.size w.heap.size _ M (by omega) hM1 W6 (Or.inr h6) (by rw [hl6]; omega) (by omega)).mono ?_
             rintro e W7 ⟨rfl, h7, b7, -⟩
             have hv7 := hv6.on b7 hBw hbiw hbpw
             have hsz7 := b7.size
             rw [hcells] at h7))
        obtain ⟨g7, cap7, hc7, hcap7⟩ : ∃ g7 cap7, W7.cell? ⟨w.heap.size, 1, none⟩ = some (.slice (some ⟨g7, 0, none⟩) (Lib.byteCells (s.data.toList.take pos ++ Lib.encodeRune M)).length cap7) ∧ 1 ≤ cap7 := by
          obtain ⟨_, v7, hv7', hown7, _⟩ := h7
          have hln : 1 ≤ (Lib.byteCells (s.data.toList.take pos ++ Lib.encodeRune M)).length := by rw [Lib.byteCells_length, List.length_append]; omega
          rcases hown7.2 with ⟨_, h0⟩ | ⟨g7, cap7, _, _, rfl, _, _, _, hnc, _⟩
          · omega
          · exact ⟨g7, cap7, by rw [Lib.cell_of_heap hv7']; rfl, by omega⟩
        have hcapz : ¬ ((cap7 : Int) = 0) := by omega
        have hcapb : ((cap7 : Int) == 0) = false := by simp; omega
        go_wp2_with (go_at_call 35; refine (Tryd.Builder_Cap_cell w.heap.size _ _ cap7 _ hc7).mono ?_; rintro e W8 ⟨rfl, hW⟩; have hW2 := hW.symm; subst hW2)
        have hlt7 := h7.lt
        clear hfr4 hv4 h5 b5 hv5 h6 b6 hv6 b7 hcells hc7 hcapz hcapb hW
        go_loopg [] s2.size (fun gk wx => ∃ (p2 : Nat) (p : Int) (rs : List Nat) (acc : List UInt8), Lib.IsBuilderF 39 5 w.heap.size w.heap.size (Lib.byteCells acc) wx ∧ wx.heap[W7.heap.size]? = some (.stringIter s2 p2) ∧ Vars B bi bp w0 p wx ∧
          acc ++ mapR g p rs = ANS ∧ s2.size ≤ p2 + gk ∧ p2 ≤ s2.size ∧ acc.length ≤ 4 * (pos + K + p2) + 4 ∧ RsOf (s2.data.toList.drop p2) rs ∧ (∀ r ∈ rs, Q ((r : Nat) : Int)) ∧ Q p)
        case atStart =>
          have hb1 : Below w.heap.size W7 (W7.iter s2 0) := (Below.refl _ W7).alloc (by omega) _
          refine ⟨0, R, rs2, s.data.toList.take pos ++ Lib.encodeRune M, Lib.IsBuilderF.alloc (Or.inr h7) _, World.iter_heap W7 s2 0, hv7.on hb1 hBw hbiw hbpw, ?_, by omega, by omega, ?_, ?_, fun r h => hqs r (by simp [h]), hQR⟩
          · rw [List.append_assoc]; exact HS.out
          · rw [List.length_append, List.length_take, hlen]; omega
          · rw [List.drop_zero, hl2]; exact hrs2
        case round =>
          clear h7 hv7 HS hrs hqs hrs2 hQR hqp hM hMR hR5' hRb hR5 hlt7
          obtain ⟨p2, pp, rs3, acc, hI, hit, hvr, hacc, hfu2, hp2, hal, hrs3, hqs3, hqp3⟩ := hrel
          have hszI : W7.heap.size < wr.heap.size := fresh_in hit
          cases rs3 with
          | nil =>
            have hd := rs_nil hrs3
            have hps2 : p2 = s2.size := by
              have := congrArg List.length hd
              rw [List.length_drop, ← Lib.size_eq] at this
              simp at this
              omega
            subst hps2
            have hnx : ∀ ty, (Instr.next (.pointer (some ⟨W7.heap.size, 0, none⟩)) true ty).run Tryd.prog wr = _ := fun ty => Lib.run_next_end_at wr W7.heap.size s2 s2.size ty hit (by omega)
            go_wp2_with (go_at_call 23; refine (Tryd.Builder_String_any_f w.heap.size w.heap.size acc wr hI (by omega)).mono ?_; rintro e W8 ⟨rfl, _, b8⟩)
            go_ret
            refine ⟨?_, hvr.bel.trans (b8.mono hBw)⟩
            rw [show mapR g pp [] = [] from rfl, List.append_nil] at hacc
            subst hacc
            rfl
          | cons R2 rs4 =>
            obtain ⟨hne3, hRe, hrs4, hR5⟩ := rs_ne hrs3
            have hQR := hqs3 R2 (by simp)
            have hlt2 : p2 < s2.size := by
              rcases Nat.lt_or_ge p2 s2.size with h | h
              · exact h
              · exact absurd (by apply List.eq_nil_of_length_eq_zero; rw [List.length_drop, ← Lib.size_eq]; omega) hne3
            have hnx : ∀ ty, (Instr.next (.pointer (some ⟨W7.heap.size, 0, none⟩)) true ty).run Tryd.prog wr = _ := fun ty => Lib.run_next_any_at wr W7.heap.size s2 p2 ty hit hlt2
            have hwd2 := Lib.width_pos s2 p2
            have hwn2 : p2 + (Utf8.decode s2 p2).2 ≤ s2.size := by
              have := Lib.decodeL_le _ hne3
              rw [Lib.decodeL_drop, List.length_drop, ← Lib.size_eq] at this
              omega
            rw [Lib.decodeL_drop] at hRe hrs4
            rw [← hRe] at hnx
            obtain ⟨K2, hK2⟩ : ∃ K2, (Utf8.decode s2 p2).2 = K2 := ⟨_, rfl⟩
            rw [hK2] at hnx hrs4 hwd2 hwn2
            rw [List.drop_drop] at hrs4
            have hI2 := hI.iterAt hit (p2 + K2)
            have hit2 := Lib.iterAt_heap wr W7.heap.size s2 p2 (p2 + K2) hit
            have hbw2 := Lib.below_iterAt (Below.refl w.heap.size wr) (k := W7.heap.size) (by omega) s2 (p2 + K2)
            have hv2 := hvr.on hbw2 hBw hbiw hbpw
            obtain ⟨Wa, hWa⟩ : ∃ Wa, wr.iterAt W7.heap.size s2 (p2 + K2) = Wa := ⟨_, rfl⟩
            rw [hWa] at hnx hI2 hit2 hv2
            have hsz2 := fresh_in hit2
            have cS := hC Wa pp R2 hqp3 hQR hv2.ci hv2.cp
            obtain ⟨hN0, hN1⟩ := hg pp R2 hqp3 hQR
            have HS2 : Aside ((acc ++ Lib.encodeRune (g pp R2)) ++ mapR g R2 rs4 = ANS) := by
              show _ = _
              rw [← hacc, List.append_assoc]; rfl
            obtain ⟨M2, hM2⟩ : ∃ M2, g pp R2 = M2 := ⟨_, rfl⟩
            rw [hM2] at cS hN0 hN1 HS2
            have hq4 := enc_four M2
            have hN0' : ¬ (M2 < 0) := by omega
            have hN0b : decide (0 ≤ M2) = true := decide_eq_true hN0
            clear hit hvr hI hWa hacc hRe hbw2
            by_cases h128 : M2 < 128
            · have h128b : decide (M2 < 128) = true := decide_eq_true h128
              go_wp2_with (first
                | (go_at_call 26; refine cS.mono ?_; rintro e W8 ⟨rfl, hgw, hcw⟩; have hI3 := isb_grown hI2 hgw hbpw; have hsz8 := hgw.size; have hit3 := (hgw.block _ (by omega) (fun e => by cases e; omega)).trans hit2)
                | (go_at_call 22; refine (wrb w.heap.size w.heap.size _ M2 W8 hI3 (by rw [Lib.byteCells_length]; omega) (by omega)).mono ?_; rintro e W9 ⟨rfl, h9, b9, k9⟩))
              go_roundg (gk - 1)
              case measure => omega
              case rel =>
                refine ⟨p2 + K2, R2, rs4, acc ++ Lib.encodeRune M2, Or.inr ?_, k9.iter hit3 (by omega), (hv2.call hgw hcw hBi hBp hne).on b9 hBw hbiw hbpw, HS2.out, by omega, hwn2, by rw [List.length_append]; omega, hrs4, fun r h => hqs3 r (by simp [h]), hQR⟩
                rw [Lib.byteCells_append, Lib.byteCells_encodeRune]
                unfold Lib.runeCells
                rw [Lib.encodeRuneZ_one hN0 (by omega)]
                exact h9
            · have h128b : decide (M2 < 128) = false := decide_eq_false h128
              go_wp2_with (first
                | (go_at_call 26; refine cS.mono ?_; rintro e W8 ⟨rfl, hgw, hcw⟩; have hI3 := isb_grown hI2 hgw hbpw; have hsz8 := hgw.size; have hit3 := (hgw.block _ (by omega) (fun e => by cases e; omega)).trans hit2)
                | (go_at_call 34; refine (wrr w.heap.size w.heap.size _ M2 (by omega) hN1 W8 hI3 (by rw [Lib.byteCells_length]; omega) (by omega)).mono ?_; rintro e W9 ⟨rfl, h9, b9, k9⟩))
              go_roundg (gk - 1)
              case measure => omega
              case rel =>
                refine ⟨p2 + K2, R2, rs4, acc ++ Lib.encodeRune M2, Or.inr ?_, k9.iter hit3 (by omega), (hv2.call hgw hcw hBi hBp hne).on b9 hBw hbiw hbpw, HS2.out, by omega, hwn2, by rw [List.length_append]; omega, hrs4, fun r h => hqs3 r (by simp [h]), hQR⟩
                rw [Lib.byteCells_append, Lib.byteCells_encodeRune]
                exact h9
end Go.Proofs.YtnjehpjkanfnnaaDoor.TtN
