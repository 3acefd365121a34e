/-
  Proved: what Format.Apply and impl.TextFormat return of a text of known characters, in each format. Conditions: the listed tables read as laid.
-/
import Derived.Test.YtphnnbbgcnilgaaDoorFmA
import Derived.Test.YtphnnbbgcnilgaaDoorShelf
import Derived.WalkKit
import Derived.BigCall
import Derived.BigQuiet
import Derived.Below
import Derived.Lib.OthersKept
import Derived.Lib.MapLaws
import Derived.Lib.RuneBytes
import Derived.Laws.Runes
import Derived.Laws.DeepStrings4
import Derived.Deep.LoopGhost
import Derived.Deep.DeepCutAuto
import Derived.Deep.DeepFit
import Derived.Deep.DeepMust
namespace Go.Proofs.YtphnnbbgcnilgaaDoor.FmM
open Go Go.RowKit Go.Proofs.YtphnnbbgcnilgaaDoor.FmA
set_option linter.unusedVariables false
set_option linter.unusedSimpArgs false
/-- F: the blocks that stay; bp: the closure's variable, C p: what it holds -/
structure Vars (B : Nat) (F : Nat → Option Obj) (bp : Nat) (C : Int → Obj) (w0 : World) (p : Int) (W : World) : Prop where
  ci : ∀ k o, F k = some o → W.heap[k]? = some o
  cp : W.heap[bp]? = some (C p)
  bel : Below B w0 W
def Clo (fn : Nat) (lb : Array Value) (B : Nat) (F : Nat → Option Obj) (bp : Nat) (C : Int → Obj) (w0 : World) (Q : Int → Prop) (g : Int → Nat → Int) : Prop :=
  ∀ (W : World) (p : Int) (x : Nat), Q p → Q (x : Int) → Vars B F bp C w0 p W →
    Calls Tryd.prog fn (#[.int .i32 (x : Int)] ++ lb) W fun e w' => e = .returned (.int .i32 (g p x)) ∧ W.grownBy w' (some bp) ∧ w'.heap[bp]? = some (C (x : Int))
variable {B bp : Nat} {F : Nat → Option Obj} {C : Int → Obj} {w0 W W' : World} {p q : Int}
theorem Vars.on (h : Vars B F bp C w0 p W) {m : Nat} (hb : Below m W W') (hB : B ≤ m) (h1 : ∀ k o, F k = some o → k < m) (h2 : bp < m) : Vars B F bp C w0 p W' :=
  ⟨fun k o hk => (hb.block _ (h1 k o hk)).trans (h.ci k o hk), (hb.block _ h2).trans h.cp, h.bel.trans (hb.mono hB)⟩
theorem Vars.call (h : Vars B F bp C w0 p W) (hg : W.grownBy W' (some bp)) (hc : W'.heap[bp]? = some (C q)) (hp : B ≤ bp) (hne : ∀ k o, F k = some o → k ≠ bp) : Vars B F bp C w0 q W' :=
  ⟨fun k o hk => (hg.block k (Array.getElem?_eq_some_iff.1 (h.ci k o hk)).1 (fun e => hne k o hk (Option.some.inj e))).trans (h.ci k o hk), hc, h.bel.grown hg (Nat.le_of_lt (Nat.lt_of_le_of_lt hp (Array.getElem?_eq_some_iff.1 h.cp).1)) (fun k hk => by cases hk; exact hp)⟩
/-- a builder above what is written -/
theorem isb_grown {T e : TypeId} {A b k : Nat} {bs : List Value} (h : Lib.IsBuilderF T e A b bs W) (hg : W.grownBy W' (some k)) (hk : k < A) : Lib.IsBuilderF T e A b bs W' := by
  have at_ : ∀ p : Value, Lib.BuilderAtF T e A b p bs W → Lib.BuilderAtF T e A b p bs W' := fun p h => by
    have hlt := h.lt
    obtain ⟨hB, v, hv, hown, hne⟩ := h
    refine ⟨hB, v, (hg.block b hlt (fun e => by cases e; omega)).trans hv, hown.kept hg ?_, hne⟩
    cases hv2 : v.ownBlock with
    | none => exact Or.inl rfl
    | some j => exact Or.inr (fun e => by cases e; have := (hown.lt _ hv2).1; omega)
  exact h.elim (fun x => .inl (at_ _ x)) (fun x => .inr (at_ _ x))
theorem fresh_in {wx : World} {k : Nat} {o : Obj} (h : wx.heap[k]? = some o) : k < wx.heap.size := (Array.getElem?_eq_some_iff.1 h).1
theorem wrs (A b : Nat) (bs : List Value) (s : ByteArray) (w : World) (h : Lib.IsBuilderF 70 5 A b bs w) (hlen : bs.length + s.size ≤ 140737488355328) (hB : A ≤ w.heap.size) :
    Calls Tryd.prog 57 #[.pointer (some ⟨b, 0, none⟩), .string s] w fun e w' => e = .returned (.tuple #[.int .i64 s.size, .nilIface]) ∧ (Lib.BuilderAtF 70 5 A b (.pointer (some ⟨b, 0, none⟩)) (bs ++ Lib.strCells s) w' ∧ Below A w w' ∧ Lib.OthersKept 5 (some b) w w') :=
  Any.Builder_WriteString_k { Tryd.lays230 with } Tryd.Builder_Extra_230 A b bs s w h hlen hB
theorem wrr (A b : Nat) (bs : List Value) (r : Int) (h0 : -2147483648 ≤ r) (h1 : r ≤ 2147483647) (w : World) (h : Lib.IsBuilderF 70 5 A b bs w) (hlen : bs.length + 4 ≤ 140737488355328) (hB : A ≤ w.heap.size) :
    Calls Tryd.prog 51 #[.pointer (some ⟨b, 0, none⟩), .int .i32 r] w fun e w' => e = .returned (.tuple #[.int .i64 (Lib.runeCells r).length, .nilIface]) ∧ (Lib.BuilderAtF 70 5 A b (.pointer (some ⟨b, 0, none⟩)) (bs ++ Lib.runeCells r) w' ∧ Below A w w' ∧ Lib.OthersKept 5 (some b) w w') :=
  Any.Builder_WriteRune_k { Tryd.lays230 with } Tryd.Builder_Extra_230 A b bs r h0 h1 w h hlen hB
theorem wrb (A b : Nat) (bs : List Value) (c : Int) (w : World) (h : Lib.IsBuilderF 70 5 A b bs w) (hlen : bs.length + 1 ≤ 140737488355328) (hB : A ≤ w.heap.size) :
    Calls Tryd.prog 59 #[.pointer (some ⟨b, 0, none⟩), .int .u8 c] w fun e w' => e = .returned .nilIface ∧ (Lib.BuilderAtF 70 5 A b (.pointer (some ⟨b, 0, none⟩)) (bs ++ [.int .u8 c]) w' ∧ Below A w w' ∧ Lib.OthersKept 5 (some b) w w') :=
  Any.Builder_WriteByte_k { Tryd.lays230 with } Tryd.Builder_Extra_230 A b bs c w h hlen hB
end Go.Proofs.YtphnnbbgcnilgaaDoor.FmM

namespace Go.Proofs.YtphnnbbgcnilgaaDoor.FmNT
open Go Go.RowKit Go.Proofs.YtphnnbbgcnilgaaDoor.FmM Go.Proofs.YtphnnbbgcnilgaaDoor.FmA
set_option linter.unusedVariables false
set_option linter.unusedSimpArgs false
set_option maxRecDepth 1000000
set_option maxHeartbeats 4000000 in
theorem map_c (B : Nat) (F : Nat → Option Obj) (bi bp : Nat) (C : Int → Obj) (w0 : World) (Q : Int → Prop) (g : Int → Nat → Int) (hC : Clo 62 #[.pointer (some ⟨bi, 0, none⟩), .pointer (some ⟨bp, 0, none⟩)] B F bp C w0 Q g) (hg : ∀ (p : Int) (x : Nat), Q p → Q (x : Int) → 0 ≤ g p x ∧ g p x ≤ 2147483647)
    (hBp : B ≤ bp) (hne : ∀ k o, F k = some o → k ≠ bp) (s : ByteArray) (rs : List Nat) (p0 : Int) (w : World) (hs : s.size < 35184372088832) (hr : RsOf s.data.toList rs) (hq : ∀ r ∈ rs, Q ((r : Nat) : Int)) (hq0 : Q p0)
    (hv : Vars B F bp C w0 p0 w) :
    Calls Tryd.prog 60 #[.func (.func 62) #[] #[.pointer (some ⟨bi, 0, none⟩), .pointer (some ⟨bp, 0, none⟩)], .string s] w fun e w' => e = .returned (.string ⟨(mapR g p0 rs).toArray⟩) ∧ Below B w0 w' := by
  have eg : ∀ args w, (callFunc 62 args).run Tryd.prog w = .ok (.enter 62 args) w := enters_of Tryd.func62 (by kernel_rfl) rfl
  obtain ⟨ANS, hANS⟩ : ∃ ANS, mapR g p0 rs = ANS := ⟨_, rfl⟩
  rw [hANS]
  have hlen : s.data.toList.length = s.size := (Lib.size_eq s).symm
  have hbiw : ∀ k o, F k = some o → k < w.heap.size := fun k o hk => fresh_in (hv.ci k o hk)
  have hbpw := fresh_in hv.cp
  have hBw : B ≤ w.heap.size := by omega
  go_enter Tryd.func60, Tryd.ntmps60
  go_wp2
  go_loopg [1] s.size (fun gk s1 wx => s1 = .string s ∧ ∃ (pos : Nat) (p : Int) (rs : List Nat), wx.heap[w.heap.size]? = some (.cells #[.pointer none, .slice none 0 0] 70 (0, 0)) ∧ wx.heap[w.heap.size + 1]? = some (.stringIter s pos) ∧ Vars B F bp C w0 p wx ∧
    s.data.toList.take pos ++ mapR g p rs = ANS ∧ s.size ≤ pos + gk ∧ pos ≤ s.size ∧ RsOf (s.data.toList.drop pos) rs ∧ (∀ r ∈ rs, Q ((r : Nat) : Int)) ∧ Q p)
  case atStart =>
    have hb1 : Below w.heap.size w ((w.alloc (.cells #[.pointer none, .slice none 0 0] 70)).iter s 0) := ((Below.refl _ w).alloc (Nat.le_refl _) _).alloc (by simp) _
    refine ⟨rfl, 0, p0, rs, ?_, ?_, hv.on hb1 hBw hbiw hbpw, by simpa using hANS, by omega, by omega, by simpa using hr, hq, hq0⟩
    · have h1 := heap_alloc_new w (.cells #[.pointer none, .slice none 0 0] 70)
      exact (Below.heap_alloc _ _ _ (by simp)).trans h1
    · have := World.iter_heap (w.alloc (.cells #[.pointer none, .slice none 0 0] 70)) s 0
      simpa using this
  case round =>
    obtain ⟨rfl, pos, p, rs1, hfr, hit, hvr, hsp, hfu, hps, hrs, hqs, hqp⟩ := hrel
    cases rs1 with
    | nil =>
      have hd := rs_nil hrs
      have hps2 : pos = s.size := by
        have := congrArg List.length hd
        rw [List.length_drop, hlen] at this
        simp at this
        omega
      subst hps2
      have hnx : ∀ ty, (Instr.next (.pointer (some ⟨w.heap.size + 1, 0, none⟩)) true ty).run Tryd.prog wr = _ := fun ty => Lib.run_next_end_at wr (w.heap.size + 1) s s.size ty hit (by omega)
      have cC := Tryd.Builder_Cap_cell w.heap.size none 0 0 wr (by rw [Lib.cell_of_heap hfr]; rfl)
      go_wp2_with (go_at_call 79; refine cC.mono ?_; rintro e W3 ⟨rfl, hW⟩; have hW2 := hW.symm; subst hW2)
      go_ret
      refine ⟨?_, hvr.bel⟩
      rw [← hsp, ← hlen, List.take_length]
      rw [show mapR g p [] = [] from rfl, List.append_nil]
      rfl
    | cons R rs2 =>
      obtain ⟨hne2, hRe, hrs2, hR5⟩ := rs_ne hrs
      have hQR := hqs R (by simp)
      have hlt : pos < s.size := by
        rcases Nat.lt_or_ge pos s.size with h | h
        · exact h
        · exact absurd (by apply List.eq_nil_of_length_eq_zero; rw [List.length_drop, hlen]; omega) hne2
      have hnx : ∀ ty, (Instr.next (.pointer (some ⟨w.heap.size + 1, 0, none⟩)) true ty).run Tryd.prog wr = _ := fun ty => Lib.run_next_any_at wr (w.heap.size + 1) s pos ty hit hlt
      have hwd := Lib.width_pos s pos
      have hwn : pos + (Utf8.decode s pos).2 ≤ s.size := by
        have := Lib.decodeL_le _ hne2
        rw [Lib.decodeL_drop, List.length_drop, hlen] at this
        omega
      have hrl := Lib.rune_le s pos
      have hrlen := Lib.runeLen_decode (s.data.toList.drop pos)
      have hen := Lib.encode_decode (s.data.toList.drop pos) hne2 (fun h => hR5 (hRe.trans h.1))
      rw [← hRe] at hen hrlen
      rw [Lib.decodeL_drop] at hRe hrs2 hrlen hen
      rw [← hRe] at hnx hrl
      obtain ⟨K, hK⟩ : ∃ K, (Utf8.decode s pos).2 = K := ⟨_, rfl⟩
      rw [hK] at hnx hrs2 hrlen hen hwd hwn
      rw [List.drop_drop] at hrs2
      have hit2 := Lib.iterAt_heap wr (w.heap.size + 1) s pos (pos + K) hit
      have hbw2 := Lib.below_iterAt (Below.refl (w.heap.size + 1) wr) (k := w.heap.size + 1) (by omega) s (pos + K)
      have hfr2 : (wr.iterAt (w.heap.size + 1) s (pos + K)).heap[w.heap.size]? = _ := (Lib.iterAt_other wr (w.heap.size + 1) w.heap.size s (pos + K) (by omega)).trans hfr
      have hv2 := hvr.on hbw2 (by omega) (fun k o hk => Nat.lt_succ_of_lt (hbiw k o hk)) (by omega)
      obtain ⟨W, hWd⟩ : ∃ W, wr.iterAt (w.heap.size + 1) s (pos + K) = W := ⟨_, rfl⟩
      rw [hWd] at hnx hit2 hfr2 hv2
      have hszW := fresh_in hit2
      have cS := hC W p R hqp hQR hv2
      obtain ⟨hM0, hM1⟩ := hg p R hqp hQR
      obtain ⟨M, hM⟩ : ∃ M, g p R = M := ⟨_, rfl⟩
      rw [hM] at cS hM0 hM1
      have hsp2 : s.data.toList.take pos ++ (Lib.encodeRune M ++ mapR g R rs2) = ANS := by rw [← hsp, ← hM]; rfl
      have hR5' : ¬ ((R : Int) = 65533) := by omega
      have hRb : ((R : Int) != 65533) = true := by simp; omega
      clear hit hfr hvr hWd hbw2 hRe hsp
      by_cases hMR : M = (R : Int)
      · subst hMR
        have HS : Aside (s.data.toList.take (pos + K) ++ mapR g R rs2 = ANS) := by
          show _ = _
          rw [← hsp2, hen, ← List.append_assoc, ← List.take_add]
        clear hsp2 hen hrlen
        go_wp2_with (go_at_call 62; refine cS.mono ?_; rintro e W3 ⟨rfl, hgw, hcw⟩)
        go_roundg (gk - 1)
        case measure => omega
        case rel =>
          exact ⟨rfl, pos + K, R, rs2, (hgw.block _ (by omega) (fun e => by cases e; omega)).trans hfr2, (hgw.block _ (by omega) (fun e => by cases e; omega)).trans hit2, hv2.call hgw hcw hBp hne, HS.out, by omega, hwn, hrs2, fun r h => hqs r (by simp [h]), hQR⟩
      · have HS : Aside (s.data.toList.take pos ++ (Lib.encodeRune M ++ mapR g R rs2) = ANS) := hsp2
        clear hsp2 hen
        have cR := Tryd.utf8_RuneLen (R : Int)
        rw [hrlen hR5] at cR
        clear hrlen
        go_wp2_with (first
          | (go_at_call 62; refine cS.mono ?_; rintro e W3 ⟨rfl, hgw, hcw⟩)
          | (go_at_call 78; refine (cR _).mono ?_; rintro e W4 ⟨rfl, hW⟩; subst hW))
        have hfr4 := (hgw.block _ (by omega) (fun e => by cases e; omega)).trans hfr2
        have hv4 := hv2.call hgw hcw hBp hne
        have hsz4 : w.heap.size < W4.heap.size := fresh_in hfr4
        clear cS cR hnx hit2 hfr2 hv2 hgw hcw
        have hxs : (s.extract 0 pos).size = pos := by rw [Lib.size_eq, Lib.extract_data, List.length_take, List.length_drop, hlen]; omega
        have hxd : (s.extract 0 pos).data.toList = s.data.toList.take pos := by rw [Lib.extract_data]; simp
        have hl6 : ([] ++ Lib.strCells (s.extract 0 pos)).length = pos := by simp [Lib.strCells_length, hxs]
        have hM0' : ¬ (M < 0) := by omega
        have hM0b : decide (0 ≤ M) = true := decide_eq_true hM0
        have hcells : [] ++ Lib.strCells (s.extract 0 pos) ++ Lib.runeCells M = Lib.byteCells (s.data.toList.take pos ++ Lib.encodeRune M) := by
          rw [List.nil_append, Lib.strCells_eq, hxd, Lib.byteCells_append, Lib.byteCells_encodeRune]
        have hr1 := enc_pos M
        have hr4 := enc_four M
        have hpk : ((pos : Int) + (K : Int)).toNat = pos + K := by omega
        obtain ⟨s2, hs2⟩ : ∃ s2, s.extract (pos + K) s.size = s2 := ⟨_, rfl⟩
        have hl2 : s2.data.toList = s.data.toList.drop (pos + K) := by
          rw [← hs2, Lib.extract_data, List.take_of_length_le (by rw [List.length_drop, hlen]; omega)]
        have hz2 : s2.size = s.size - (pos + K) := by rw [Lib.size_eq, hl2, List.length_drop, hlen]
        go_wp2_with (first
          | (go_at_call 37; refine (Tryd.Builder_Grow_fresh w.heap.size w.heap.size (s.size + 4) W4 (Nat.le_refl _) hfr4 (by omega) (by omega)).mono ?_
             rintro e W5 ⟨rfl, h5, b5⟩
             have hv5 := hv4.on b5 hBw hbiw hbpw
             have hsz5 := b5.size)
          | (go_at_call 57; refine (wrs w.heap.size w.heap.size [] (s.extract 0 pos) W5 (Lib.IsBuilderF.of (Or.inr h5)) (by rw [hxs]; simp; omega) (by omega)).mono ?_
             rintro e W6 ⟨rfl, h6, b6, -⟩
             have hv6 := hv5.on b6 hBw hbiw hbpw
             have hsz6 := b6.size)
          | (go_at_call 51; refine (wrr w.heap.size w.heap.size _ M (by omega) hM1 W6 (Or.inr h6) (by rw [hl6]; omega) (by omega)).mono ?_
             rintro e W7 ⟨rfl, h7, b7, -⟩
             have hv7 := hv6.on b7 hBw hbiw hbpw
             have hsz7 := b7.size
             rw [hcells] at h7))
        obtain ⟨g7, cap7, hc7, hcap7⟩ : ∃ g7 cap7, W7.cell? ⟨w.heap.size, 1, none⟩ = some (.slice (some ⟨g7, 0, none⟩) (Lib.byteCells (s.data.toList.take pos ++ Lib.encodeRune M)).length cap7) ∧ 1 ≤ cap7 := by
          obtain ⟨_, v7, hv7', hown7, _⟩ := h7
          have hln : 1 ≤ (Lib.byteCells (s.data.toList.take pos ++ Lib.encodeRune M)).length := by rw [Lib.byteCells_length, List.length_append]; omega
          rcases hown7.2 with ⟨_, h0⟩ | ⟨g7, cap7, _, _, rfl, _, _, _, hnc, _⟩
          · omega
          · exact ⟨g7, cap7, by rw [Lib.cell_of_heap hv7']; rfl, by omega⟩
        have hcapz : ¬ ((cap7 : Int) = 0) := by omega
        have hcapb : ((cap7 : Int) == 0) = false := by simp; omega
        go_wp2_with (go_at_call 79; refine (Tryd.Builder_Cap_cell w.heap.size _ _ cap7 _ hc7).mono ?_; rintro e W8 ⟨rfl, hW⟩; have hW2 := hW.symm; subst hW2)
        have hlt7 := h7.lt
        clear hfr4 hv4 h5 b5 hv5 h6 b6 hv6 b7 hcells hc7 hcapz hcapb hW
        go_loopg [] s2.size (fun gk wx => ∃ (p2 : Nat) (p : Int) (rs : List Nat) (acc : List UInt8), Lib.IsBuilderF 70 5 w.heap.size w.heap.size (Lib.byteCells acc) wx ∧ wx.heap[W7.heap.size]? = some (.stringIter s2 p2) ∧ Vars B F bp C w0 p wx ∧
          acc ++ mapR g p rs = ANS ∧ s2.size ≤ p2 + gk ∧ p2 ≤ s2.size ∧ acc.length ≤ 4 * (pos + K + p2) + 4 ∧ RsOf (s2.data.toList.drop p2) rs ∧ (∀ r ∈ rs, Q ((r : Nat) : Int)) ∧ Q p)
        case atStart =>
          have hb1 : Below w.heap.size W7 (W7.iter s2 0) := (Below.refl _ W7).alloc (by omega) _
          refine ⟨0, R, rs2, s.data.toList.take pos ++ Lib.encodeRune M, Lib.IsBuilderF.alloc (Or.inr h7) _, World.iter_heap W7 s2 0, hv7.on hb1 hBw hbiw hbpw, ?_, by omega, by omega, ?_, ?_, fun r h => hqs r (by simp [h]), hQR⟩
          · rw [List.append_assoc]; exact HS.out
          · rw [List.length_append, List.length_take, hlen]; omega
          · rw [List.drop_zero, hl2]; exact hrs2
        case round =>
          clear h7 hv7 HS hrs hqs hrs2 hQR hqp hM hMR hR5' hRb hR5 hlt7
          obtain ⟨p2, pp, rs3, acc, hI, hit, hvr, hacc, hfu2, hp2, hal, hrs3, hqs3, hqp3⟩ := hrel
          have hszI : W7.heap.size < wr.heap.size := fresh_in hit
          cases rs3 with
          | nil =>
            have hd := rs_nil hrs3
            have hps2 : p2 = s2.size := by
              have := congrArg List.length hd
              rw [List.length_drop, ← Lib.size_eq] at this
              simp at this
              omega
            subst hps2
            have hnx : ∀ ty, (Instr.next (.pointer (some ⟨W7.heap.size, 0, none⟩)) true ty).run Tryd.prog wr = _ := fun ty => Lib.run_next_end_at wr W7.heap.size s2 s2.size ty hit (by omega)
            go_wp2_with (go_at_call 58; refine (Tryd.Builder_String_any_f w.heap.size w.heap.size acc wr hI (by omega)).mono ?_; rintro e W8 ⟨rfl, _, b8⟩)
            go_ret
            refine ⟨?_, hvr.bel.trans (b8.mono hBw)⟩
            rw [show mapR g pp [] = [] from rfl, List.append_nil] at hacc
            subst hacc
            rfl
          | cons R2 rs4 =>
            obtain ⟨hne3, hRe, hrs4, hR5⟩ := rs_ne hrs3
            have hQR := hqs3 R2 (by simp)
            have hlt2 : p2 < s2.size := by
              rcases Nat.lt_or_ge p2 s2.size with h | h
              · exact h
              · exact absurd (by apply List.eq_nil_of_length_eq_zero; rw [List.length_drop, ← Lib.size_eq]; omega) hne3
            have hnx : ∀ ty, (Instr.next (.pointer (some ⟨W7.heap.size, 0, none⟩)) true ty).run Tryd.prog wr = _ := fun ty => Lib.run_next_any_at wr W7.heap.size s2 p2 ty hit hlt2
            have hwd2 := Lib.width_pos s2 p2
            have hwn2 : p2 + (Utf8.decode s2 p2).2 ≤ s2.size := by
              have := Lib.decodeL_le _ hne3
              rw [Lib.decodeL_drop, List.length_drop, ← Lib.size_eq] at this
              omega
            rw [Lib.decodeL_drop] at hRe hrs4
            rw [← hRe] at hnx
            obtain ⟨K2, hK2⟩ : ∃ K2, (Utf8.decode s2 p2).2 = K2 := ⟨_, rfl⟩
            rw [hK2] at hnx hrs4 hwd2 hwn2
            rw [List.drop_drop] at hrs4
            have hI2 := hI.iterAt hit (p2 + K2)
            have hit2 := Lib.iterAt_heap wr W7.heap.size s2 p2 (p2 + K2) hit
            have hbw2 := Lib.below_iterAt (Below.refl w.heap.size wr) (k := W7.heap.size) (by omega) s2 (p2 + K2)
            have hv2 := hvr.on hbw2 hBw hbiw hbpw
            obtain ⟨Wa, hWa⟩ : ∃ Wa, wr.iterAt W7.heap.size s2 (p2 + K2) = Wa := ⟨_, rfl⟩
            rw [hWa] at hnx hI2 hit2 hv2
            have hsz2 := fresh_in hit2
            have cS := hC Wa pp R2 hqp3 hQR hv2
            obtain ⟨hN0, hN1⟩ := hg pp R2 hqp3 hQR
            have HS2 : Aside ((acc ++ Lib.encodeRune (g pp R2)) ++ mapR g R2 rs4 = ANS) := by
              show _ = _
              rw [← hacc, List.append_assoc]; rfl
            obtain ⟨M2, hM2⟩ : ∃ M2, g pp R2 = M2 := ⟨_, rfl⟩
            rw [hM2] at cS hN0 hN1 HS2
            have hq4 := enc_four M2
            have hN0' : ¬ (M2 < 0) := by omega
            have hN0b : decide (0 ≤ M2) = true := decide_eq_true hN0
            clear hit hvr hI hWa hacc hRe hbw2
            by_cases h128 : M2 < 128
            · have h128b : decide (M2 < 128) = true := decide_eq_true h128
              go_wp2_with (first
                | (go_at_call 62; refine cS.mono ?_; rintro e W8 ⟨rfl, hgw, hcw⟩; have hI3 := isb_grown hI2 hgw hbpw; have hsz8 := hgw.size; have hit3 := (hgw.block _ (by omega) (fun e => by cases e; omega)).trans hit2)
                | (go_at_call 59; refine (wrb w.heap.size w.heap.size _ M2 W8 hI3 (by rw [Lib.byteCells_length]; omega) (by omega)).mono ?_; rintro e W9 ⟨rfl, h9, b9, k9⟩))
              go_roundg (gk - 1)
              case measure => omega
              case rel =>
                refine ⟨p2 + K2, R2, rs4, acc ++ Lib.encodeRune M2, Or.inr ?_, k9.iter hit3 (by omega), (hv2.call hgw hcw hBp hne).on b9 hBw hbiw hbpw, HS2.out, by omega, hwn2, by rw [List.length_append]; omega, hrs4, fun r h => hqs3 r (by simp [h]), hQR⟩
                rw [Lib.byteCells_append, Lib.byteCells_encodeRune]
                unfold Lib.runeCells
                rw [Lib.encodeRuneZ_one hN0 (by omega)]
                exact h9
            · have h128b : decide (M2 < 128) = false := decide_eq_false h128
              go_wp2_with (first
                | (go_at_call 62; refine cS.mono ?_; rintro e W8 ⟨rfl, hgw, hcw⟩; have hI3 := isb_grown hI2 hgw hbpw; have hsz8 := hgw.size; have hit3 := (hgw.block _ (by omega) (fun e => by cases e; omega)).trans hit2)
                | (go_at_call 51; refine (wrr w.heap.size w.heap.size _ M2 (by omega) hN1 W8 hI3 (by rw [Lib.byteCells_length]; omega) (by omega)).mono ?_; rintro e W9 ⟨rfl, h9, b9, k9⟩))
              go_roundg (gk - 1)
              case measure => omega
              case rel =>
                refine ⟨p2 + K2, R2, rs4, acc ++ Lib.encodeRune M2, Or.inr ?_, k9.iter hit3 (by omega), (hv2.call hgw hcw hBp hne).on b9 hBw hbiw hbpw, HS2.out, by omega, hwn2, by rw [List.length_append]; omega, hrs4, fun r h => hqs3 r (by simp [h]), hQR⟩
                rw [Lib.byteCells_append, Lib.byteCells_encodeRune]
                exact h9
end Go.Proofs.YtphnnbbgcnilgaaDoor.FmNT

namespace Go.Proofs.YtphnnbbgcnilgaaDoor.FmNU
open Go Go.RowKit Go.Proofs.YtphnnbbgcnilgaaDoor.FmM Go.Proofs.YtphnnbbgcnilgaaDoor.FmA
set_option linter.unusedVariables false
set_option linter.unusedSimpArgs false
set_option maxRecDepth 1000000
set_option maxHeartbeats 4000000 in
theorem map_c (B : Nat) (F : Nat → Option Obj) (bp : Nat) (C : Int → Obj) (w0 : World) (Q : Int → Prop) (g : Int → Nat → Int) (hC : Clo 65 #[.pointer (some ⟨bp, 0, none⟩)] B F bp C w0 Q g) (hg : ∀ (p : Int) (x : Nat), Q p → Q (x : Int) → 0 ≤ g p x ∧ g p x ≤ 2147483647)
    (hBp : B ≤ bp) (hne : ∀ k o, F k = some o → k ≠ bp) (s : ByteArray) (rs : List Nat) (p0 : Int) (w : World) (hs : s.size < 35184372088832) (hr : RsOf s.data.toList rs) (hq : ∀ r ∈ rs, Q ((r : Nat) : Int)) (hq0 : Q p0)
    (hv : Vars B F bp C w0 p0 w) :
    Calls Tryd.prog 60 #[.func (.func 65) #[] #[.pointer (some ⟨bp, 0, none⟩)], .string s] w fun e w' => e = .returned (.string ⟨(mapR g p0 rs).toArray⟩) ∧ Below B w0 w' := by
  have eg : ∀ args w, (callFunc 65 args).run Tryd.prog w = .ok (.enter 65 args) w := enters_of Tryd.func65 (by kernel_rfl) rfl
  obtain ⟨ANS, hANS⟩ : ∃ ANS, mapR g p0 rs = ANS := ⟨_, rfl⟩
  rw [hANS]
  have hlen : s.data.toList.length = s.size := (Lib.size_eq s).symm
  have hbiw : ∀ k o, F k = some o → k < w.heap.size := fun k o hk => fresh_in (hv.ci k o hk)
  have hbpw := fresh_in hv.cp
  have hBw : B ≤ w.heap.size := by omega
  go_enter Tryd.func60, Tryd.ntmps60
  go_wp2
  go_loopg [1] s.size (fun gk s1 wx => s1 = .string s ∧ ∃ (pos : Nat) (p : Int) (rs : List Nat), wx.heap[w.heap.size]? = some (.cells #[.pointer none, .slice none 0 0] 70 (0, 0)) ∧ wx.heap[w.heap.size + 1]? = some (.stringIter s pos) ∧ Vars B F bp C w0 p wx ∧
    s.data.toList.take pos ++ mapR g p rs = ANS ∧ s.size ≤ pos + gk ∧ pos ≤ s.size ∧ RsOf (s.data.toList.drop pos) rs ∧ (∀ r ∈ rs, Q ((r : Nat) : Int)) ∧ Q p)
  case atStart =>
    have hb1 : Below w.heap.size w ((w.alloc (.cells #[.pointer none, .slice none 0 0] 70)).iter s 0) := ((Below.refl _ w).alloc (Nat.le_refl _) _).alloc (by simp) _
    refine ⟨rfl, 0, p0, rs, ?_, ?_, hv.on hb1 hBw hbiw hbpw, by simpa using hANS, by omega, by omega, by simpa using hr, hq, hq0⟩
    · have h1 := heap_alloc_new w (.cells #[.pointer none, .slice none 0 0] 70)
      exact (Below.heap_alloc _ _ _ (by simp)).trans h1
    · have := World.iter_heap (w.alloc (.cells #[.pointer none, .slice none 0 0] 70)) s 0
      simpa using this
  case round =>
    obtain ⟨rfl, pos, p, rs1, hfr, hit, hvr, hsp, hfu, hps, hrs, hqs, hqp⟩ := hrel
    cases rs1 with
    | nil =>
      have hd := rs_nil hrs
      have hps2 : pos = s.size := by
        have := congrArg List.length hd
        rw [List.length_drop, hlen] at this
        simp at this
        omega
      subst hps2
      have hnx : ∀ ty, (Instr.next (.pointer (some ⟨w.heap.size + 1, 0, none⟩)) true ty).run Tryd.prog wr = _ := fun ty => Lib.run_next_end_at wr (w.heap.size + 1) s s.size ty hit (by omega)
      have cC := Tryd.Builder_Cap_cell w.heap.size none 0 0 wr (by rw [Lib.cell_of_heap hfr]; rfl)
      go_wp2_with (go_at_call 79; refine cC.mono ?_; rintro e W3 ⟨rfl, hW⟩; have hW2 := hW.symm; subst hW2)
      go_ret
      refine ⟨?_, hvr.bel⟩
      rw [← hsp, ← hlen, List.take_length]
      rw [show mapR g p [] = [] from rfl, List.append_nil]
      rfl
    | cons R rs2 =>
      obtain ⟨hne2, hRe, hrs2, hR5⟩ := rs_ne hrs
      have hQR := hqs R (by simp)
      have hlt : pos < s.size := by
        rcases Nat.lt_or_ge pos s.size with h | h
        · exact h
        · exact absurd (by apply List.eq_nil_of_length_eq_zero; rw [List.length_drop, hlen]; omega) hne2
      have hnx : ∀ ty, (Instr.next (.pointer (some ⟨w.heap.size + 1, 0, none⟩)) true ty).run Tryd.prog wr = _ := fun ty => Lib.run_next_any_at wr (w.heap.size + 1) s pos ty hit hlt
      have hwd := Lib.width_pos s pos
      have hwn : pos + (Utf8.decode s pos).2 ≤ s.size := by
        have := Lib.decodeL_le _ hne2
        rw [Lib.decodeL_drop, List.length_drop, hlen] at this
        omega
      have hrl := Lib.rune_le s pos
      have hrlen := Lib.runeLen_decode (s.data.toList.drop pos)
      have hen := Lib.encode_decode (s.data.toList.drop pos) hne2 (fun h => hR5 (hRe.trans h.1))
      rw [← hRe] at hen hrlen
      rw [Lib.decodeL_drop] at hRe hrs2 hrlen hen
      rw [← hRe] at hnx hrl
      obtain ⟨K, hK⟩ : ∃ K, (Utf8.decode s pos).2 = K := ⟨_, rfl⟩
      rw [hK] at hnx hrs2 hrlen hen hwd hwn
      rw [List.drop_drop] at hrs2
      have hit2 := Lib.iterAt_heap wr (w.heap.size + 1) s pos (pos + K) hit
      have hbw2 := Lib.below_iterAt (Below.refl (w.heap.size + 1) wr) (k := w.heap.size + 1) (by omega) s (pos + K)
      have hfr2 : (wr.iterAt (w.heap.size + 1) s (pos + K)).heap[w.heap.size]? = _ := (Lib.iterAt_other wr (w.heap.size + 1) w.heap.size s (pos + K) (by omega)).trans hfr
      have hv2 := hvr.on hbw2 (by omega) (fun k o hk => Nat.lt_succ_of_lt (hbiw k o hk)) (by omega)
      obtain ⟨W, hWd⟩ : ∃ W, wr.iterAt (w.heap.size + 1) s (pos + K) = W := ⟨_, rfl⟩
      rw [hWd] at hnx hit2 hfr2 hv2
      have hszW := fresh_in hit2
      have cS := hC W p R hqp hQR hv2
      obtain ⟨hM0, hM1⟩ := hg p R hqp hQR
      obtain ⟨M, hM⟩ : ∃ M, g p R = M := ⟨_, rfl⟩
      rw [hM] at cS hM0 hM1
      have hsp2 : s.data.toList.take pos ++ (Lib.encodeRune M ++ mapR g R rs2) = ANS := by rw [← hsp, ← hM]; rfl
      have hR5' : ¬ ((R : Int) = 65533) := by omega
      have hRb : ((R : Int) != 65533) = true := by simp; omega
      clear hit hfr hvr hWd hbw2 hRe hsp
      by_cases hMR : M = (R : Int)
      · subst hMR
        have HS : Aside (s.data.toList.take (pos + K) ++ mapR g R rs2 = ANS) := by
          show _ = _
          rw [← hsp2, hen, ← List.append_assoc, ← List.take_add]
        clear hsp2 hen hrlen
        go_wp2_with (go_at_call 65; refine cS.mono ?_; rintro e W3 ⟨rfl, hgw, hcw⟩)
        go_roundg (gk - 1)
        case measure => omega
        case rel =>
          exact ⟨rfl, pos + K, R, rs2, (hgw.block _ (by omega) (fun e => by cases e; omega)).trans hfr2, (hgw.block _ (by omega) (fun e => by cases e; omega)).trans hit2, hv2.call hgw hcw hBp hne, HS.out, by omega, hwn, hrs2, fun r h => hqs r (by simp [h]), hQR⟩
      · have HS : Aside (s.data.toList.take pos ++ (Lib.encodeRune M ++ mapR g R rs2) = ANS) := hsp2
        clear hsp2 hen
        have cR := Tryd.utf8_RuneLen (R : Int)
        rw [hrlen hR5] at cR
        clear hrlen
        go_wp2_with (first
          | (go_at_call 65; refine cS.mono ?_; rintro e W3 ⟨rfl, hgw, hcw⟩)
          | (go_at_call 78; refine (cR _).mono ?_; rintro e W4 ⟨rfl, hW⟩; subst hW))
        have hfr4 := (hgw.block _ (by omega) (fun e => by cases e; omega)).trans hfr2
        have hv4 := hv2.call hgw hcw hBp hne
        have hsz4 : w.heap.size < W4.heap.size := fresh_in hfr4
        clear cS cR hnx hit2 hfr2 hv2 hgw hcw
        have hxs : (s.extract 0 pos).size = pos := by rw [Lib.size_eq, Lib.extract_data, List.length_take, List.length_drop, hlen]; omega
        have hxd : (s.extract 0 pos).data.toList = s.data.toList.take pos := by rw [Lib.extract_data]; simp
        have hl6 : ([] ++ Lib.strCells (s.extract 0 pos)).length = pos := by simp [Lib.strCells_length, hxs]
        have hM0' : ¬ (M < 0) := by omega
        have hM0b : decide (0 ≤ M) = true := decide_eq_true hM0
        have hcells : [] ++ Lib.strCells (s.extract 0 pos) ++ Lib.runeCells M = Lib.byteCells (s.data.toList.take pos ++ Lib.encodeRune M) := by
          rw [List.nil_append, Lib.strCells_eq, hxd, Lib.byteCells_append, Lib.byteCells_encodeRune]
        have hr1 := enc_pos M
        have hr4 := enc_four M
        have hpk : ((pos : Int) + (K : Int)).toNat = pos + K := by omega
        obtain ⟨s2, hs2⟩ : ∃ s2, s.extract (pos + K) s.size = s2 := ⟨_, rfl⟩
        have hl2 : s2.data.toList = s.data.toList.drop (pos + K) := by
          rw [← hs2, Lib.extract_data, List.take_of_length_le (by rw [List.length_drop, hlen]; omega)]
        have hz2 : s2.size = s.size - (pos + K) := by rw [Lib.size_eq, hl2, List.length_drop, hlen]
        go_wp2_with (first
          | (go_at_call 37; refine (Tryd.Builder_Grow_fresh w.heap.size w.heap.size (s.size + 4) W4 (Nat.le_refl _) hfr4 (by omega) (by omega)).mono ?_
             rintro e W5 ⟨rfl, h5, b5⟩
             have hv5 := hv4.on b5 hBw hbiw hbpw
             have hsz5 := b5.size)
          | (go_at_call 57; refine (wrs w.heap.size w.heap.size [] (s.extract 0 pos) W5 (Lib.IsBuilderF.of (Or.inr h5)) (by rw [hxs]; simp; omega) (by omega)).mono ?_
             rintro e W6 ⟨rfl, h6, b6, -⟩
             have hv6 := hv5.on b6 hBw hbiw hbpw
             have hsz6 := b6.size)
          | (go_at_call 51; refine (wrr w.heap.size w.heap.size _ M (by omega) hM1 W6 (Or.inr h6) (by rw [hl6]; omega) (by omega)).mono ?_
             rintro e W7 ⟨rfl, h7, b7, -⟩
             have hv7 := hv6.on b7 hBw hbiw hbpw
             have hsz7 := b7.size
             rw [hcells] at h7))
        obtain ⟨g7, cap7, hc7, hcap7⟩ : ∃ g7 cap7, W7.cell? ⟨w.heap.size, 1, none⟩ = some (.slice (some ⟨g7, 0, none⟩) (Lib.byteCells (s.data.toList.take pos ++ Lib.encodeRune M)).length cap7) ∧ 1 ≤ cap7 := by
          obtain ⟨_, v7, hv7', hown7, _⟩ := h7
          have hln : 1 ≤ (Lib.byteCells (s.data.toList.take pos ++ Lib.encodeRune M)).length := by rw [Lib.byteCells_length, List.length_append]; omega
          rcases hown7.2 with ⟨_, h0⟩ | ⟨g7, cap7, _, _, rfl, _, _, _, hnc, _⟩
          · omega
          · exact ⟨g7, cap7, by rw [Lib.cell_of_heap hv7']; rfl, by omega⟩
        have hcapz : ¬ ((cap7 : Int) = 0) := by omega
        have hcapb : ((cap7 : Int) == 0) = false := by simp; omega
        go_wp2_with (go_at_call 79; refine (Tryd.Builder_Cap_cell w.heap.size _ _ cap7 _ hc7).mono ?_; rintro e W8 ⟨rfl, hW⟩; have hW2 := hW.symm; subst hW2)
        have hlt7 := h7.lt
        clear hfr4 hv4 h5 b5 hv5 h6 b6 hv6 b7 hcells hc7 hcapz hcapb hW
        go_loopg [] s2.size (fun gk wx => ∃ (p2 : Nat) (p : Int) (rs : List Nat) (acc : List UInt8), Lib.IsBuilderF 70 5 w.heap.size w.heap.size (Lib.byteCells acc) wx ∧ wx.heap[W7.heap.size]? = some (.stringIter s2 p2) ∧ Vars B F bp C w0 p wx ∧
          acc ++ mapR g p rs = ANS ∧ s2.size ≤ p2 + gk ∧ p2 ≤ s2.size ∧ acc.length ≤ 4 * (pos + K + p2) + 4 ∧ RsOf (s2.data.toList.drop p2) rs ∧ (∀ r ∈ rs, Q ((r : Nat) : Int)) ∧ Q p)
        case atStart =>
          have hb1 : Below w.heap.size W7 (W7.iter s2 0) := (Below.refl _ W7).alloc (by omega) _
          refine ⟨0, R, rs2, s.data.toList.take pos ++ Lib.encodeRune M, Lib.IsBuilderF.alloc (Or.inr h7) _, World.iter_heap W7 s2 0, hv7.on hb1 hBw hbiw hbpw, ?_, by omega, by omega, ?_, ?_, fun r h => hqs r (by simp [h]), hQR⟩
          · rw [List.append_assoc]; exact HS.out
          · rw [List.length_append, List.length_take, hlen]; omega
          · rw [List.drop_zero, hl2]; exact hrs2
        case round =>
          clear h7 hv7 HS hrs hqs hrs2 hQR hqp hM hMR hR5' hRb hR5 hlt7
          obtain ⟨p2, pp, rs3, acc, hI, hit, hvr, hacc, hfu2, hp2, hal, hrs3, hqs3, hqp3⟩ := hrel
          have hszI : W7.heap.size < wr.heap.size := fresh_in hit
          cases rs3 with
          | nil =>
            have hd := rs_nil hrs3
            have hps2 : p2 = s2.size := by
              have := congrArg List.length hd
              rw [List.length_drop, ← Lib.size_eq] at this
              simp at this
              omega
            subst hps2
            have hnx : ∀ ty, (Instr.next (.pointer (some ⟨W7.heap.size, 0, none⟩)) true ty).run Tryd.prog wr = _ := fun ty => Lib.run_next_end_at wr W7.heap.size s2 s2.size ty hit (by omega)
            go_wp2_with (go_at_call 58; refine (Tryd.Builder_String_any_f w.heap.size w.heap.size acc wr hI (by omega)).mono ?_; rintro e W8 ⟨rfl, _, b8⟩)
            go_ret
            refine ⟨?_, hvr.bel.trans (b8.mono hBw)⟩
            rw [show mapR g pp [] = [] from rfl, List.append_nil] at hacc
            subst hacc
            rfl
          | cons R2 rs4 =>
            obtain ⟨hne3, hRe, hrs4, hR5⟩ := rs_ne hrs3
            have hQR := hqs3 R2 (by simp)
            have hlt2 : p2 < s2.size := by
              rcases Nat.lt_or_ge p2 s2.size with h | h
              · exact h
              · exact absurd (by apply List.eq_nil_of_length_eq_zero; rw [List.length_drop, ← Lib.size_eq]; omega) hne3
            have hnx : ∀ ty, (Instr.next (.pointer (some ⟨W7.heap.size, 0, none⟩)) true ty).run Tryd.prog wr = _ := fun ty => Lib.run_next_any_at wr W7.heap.size s2 p2 ty hit hlt2
            have hwd2 := Lib.width_pos s2 p2
            have hwn2 : p2 + (Utf8.decode s2 p2).2 ≤ s2.size := by
              have := Lib.decodeL_le _ hne3
              rw [Lib.decodeL_drop, List.length_drop, ← Lib.size_eq] at this
              omega
            rw [Lib.decodeL_drop] at hRe hrs4
            rw [← hRe] at hnx
            obtain ⟨K2, hK2⟩ : ∃ K2, (Utf8.decode s2 p2).2 = K2 := ⟨_, rfl⟩
            rw [hK2] at hnx hrs4 hwd2 hwn2
            rw [List.drop_drop] at hrs4
            have hI2 := hI.iterAt hit (p2 + K2)
            have hit2 := Lib.iterAt_heap wr W7.heap.size s2 p2 (p2 + K2) hit
            have hbw2 := Lib.below_iterAt (Below.refl w.heap.size wr) (k := W7.heap.size) (by omega) s2 (p2 + K2)
            have hv2 := hvr.on hbw2 hBw hbiw hbpw
            obtain ⟨Wa, hWa⟩ : ∃ Wa, wr.iterAt W7.heap.size s2 (p2 + K2) = Wa := ⟨_, rfl⟩
            rw [hWa] at hnx hI2 hit2 hv2
            have hsz2 := fresh_in hit2
            have cS := hC Wa pp R2 hqp3 hQR hv2
            obtain ⟨hN0, hN1⟩ := hg pp R2 hqp3 hQR
            have HS2 : Aside ((acc ++ Lib.encodeRune (g pp R2)) ++ mapR g R2 rs4 = ANS) := by
              show _ = _
              rw [← hacc, List.append_assoc]; rfl
            obtain ⟨M2, hM2⟩ : ∃ M2, g pp R2 = M2 := ⟨_, rfl⟩
            rw [hM2] at cS hN0 hN1 HS2
            have hq4 := enc_four M2
            have hN0' : ¬ (M2 < 0) := by omega
            have hN0b : decide (0 ≤ M2) = true := decide_eq_true hN0
            clear hit hvr hI hWa hacc hRe hbw2
            by_cases h128 : M2 < 128
            · have h128b : decide (M2 < 128) = true := decide_eq_true h128
              go_wp2_with (first
                | (go_at_call 65; refine cS.mono ?_; rintro e W8 ⟨rfl, hgw, hcw⟩; have hI3 := isb_grown hI2 hgw hbpw; have hsz8 := hgw.size; have hit3 := (hgw.block _ (by omega) (fun e => by cases e; omega)).trans hit2)
                | (go_at_call 59; refine (wrb w.heap.size w.heap.size _ M2 W8 hI3 (by rw [Lib.byteCells_length]; omega) (by omega)).mono ?_; rintro e W9 ⟨rfl, h9, b9, k9⟩))
              go_roundg (gk - 1)
              case measure => omega
              case rel =>
                refine ⟨p2 + K2, R2, rs4, acc ++ Lib.encodeRune M2, Or.inr ?_, k9.iter hit3 (by omega), (hv2.call hgw hcw hBp hne).on b9 hBw hbiw hbpw, HS2.out, by omega, hwn2, by rw [List.length_append]; omega, hrs4, fun r h => hqs3 r (by simp [h]), hQR⟩
                rw [Lib.byteCells_append, Lib.byteCells_encodeRune]
                unfold Lib.runeCells
                rw [Lib.encodeRuneZ_one hN0 (by omega)]
                exact h9
            · have h128b : decide (M2 < 128) = false := decide_eq_false h128
              go_wp2_with (first
                | (go_at_call 65; refine cS.mono ?_; rintro e W8 ⟨rfl, hgw, hcw⟩; have hI3 := isb_grown hI2 hgw hbpw; have hsz8 := hgw.size; have hit3 := (hgw.block _ (by omega) (fun e => by cases e; omega)).trans hit2)
                | (go_at_call 51; refine (wrr w.heap.size w.heap.size _ M2 (by omega) hN1 W8 hI3 (by rw [Lib.byteCells_length]; omega) (by omega)).mono ?_; rintro e W9 ⟨rfl, h9, b9, k9⟩))
              go_roundg (gk - 1)
              case measure => omega
              case rel =>
                refine ⟨p2 + K2, R2, rs4, acc ++ Lib.encodeRune M2, Or.inr ?_, k9.iter hit3 (by omega), (hv2.call hgw hcw hBp hne).on b9 hBw hbiw hbpw, HS2.out, by omega, hwn2, by rw [List.length_append]; omega, hrs4, fun r h => hqs3 r (by simp [h]), hQR⟩
                rw [Lib.byteCells_append, Lib.byteCells_encodeRune]
                exact h9
end Go.Proofs.YtphnnbbgcnilgaaDoor.FmNU

namespace Go.Proofs.YtphnnbbgcnilgaaDoor.FmC
open Go Go.RowKit Go.Proofs.YtphnnbbgcnilgaaDoorW.PrintWords Go.Proofs.YtphnnbbgcnilgaaDoor.FmA Go.Proofs.YtphnnbbgcnilgaaDoor.FmM
set_option linter.unusedVariables false
set_option linter.unusedSimpArgs false
set_option maxRecDepth 1000000
/-- the library's tables -/
structure Tb (W : World) : Prop where
  cv : Lib.CaseVar (Tryd.lays203_ren.g 13) Lib.caseA W
  u8 : Lib.Utf8Tabs (Tryd.lays230_ren.g 3) (Tryd.lays230_ren.g 4) W
  pr : Lib.TabIs Tryd.prog W "unicode.properties" .u8 Lib.propertiesTab
  lt : Lib.RVar (Tryd.lays200_ren.g 8) Lib.letterT W
  dg : Lib.RVar (Tryd.lays198_ren.g 5) Lib.digitT W
  wh : Lib.WhiteTab (Tryd.lays199_ren.g 6) W
theorem gProp : Tryd.prog.globalNamed "unicode.properties" = some (Tryd.lays200_ren.g 7) := by kernel_rfl
theorem Tb.below {W W1 : World} (h : Tb W) (hb : Below W.heap.size W W1) : Tb W1 :=
  ⟨Lib.CaseVar_below h.cv hb, Utf8Tabs_below h.u8 hb, TabIs_below gProp h.pr hb, RVar_below h.lt hb, RVar_below h.dg hb, WhiteTab_below h.wh hb⟩
theorem up_c (r : Int) (w : World) (hT : Tb w) : Calls Tryd.prog 64 #[.int .i32 r] w fun e w' => e = .returned (.int .i32 (Lib.toUpperU r)) ∧ ∃ q, w' = w.drewN q := Any.unicode_ToUpper_laid Tryd.lays203 r w hT.cv
theorem let_c (r : Nat) (hr : r ≤ 1114111) (w : World) (hT : Tb w) : Calls Tryd.prog 81 #[.int .i32 (r : Int)] w fun e w' => e = .returned (.bool (Lib.isLetterU (r : Int))) ∧ Below w.heap.size w w' := Any.unicode_IsLetter_all Tryd.lays200 gProp (r : Int) w (by omega) (by omega) hT.pr hT.lt
theorem dig_c (r : Nat) (hr : r ≤ 1114111) (w : World) (hT : Tb w) : Calls Tryd.prog 82 #[.int .i32 (r : Int)] w fun e w' => e = .returned (.bool (Lib.isDigitU (r : Int))) ∧ Below w.heap.size w w' := Any.unicode_IsDigit_all Tryd.lays198 (r : Int) w (by omega) (by omega) hT.dg
theorem spc_c (r : Nat) (hr : r ≤ 1114111) (w : World) (hT : Tb w) : Calls Tryd.prog 83 #[.int .i32 (r : Int)] w fun e w' => e = .returned (.bool (Lib.isSpaceZ (r : Int))) ∧ Below w.heap.size w w' := Any.unicode_IsSpace_any Tryd.lays199 (r : Int) w (by omega) (by omega) hT.wh
set_option maxHeartbeats 2000000 in
theorem sep_c (r : Nat) (hr : r ≤ 1114111) (w : World) (hT : Tb w) : Calls Tryd.prog 63 #[.int .i32 (r : Int)] w fun e w' => e = .returned (.bool (isSep (r : Int))) ∧ Below w.heap.size w w' := by
  by_cases hl : r ≤ 127
  · have d1 : decide ((r : Int) ≤ 127) = true := decide_eq_true (by omega)
    have hc : (r < 48) ∨ (48 ≤ r ∧ r ≤ 57) ∨ (57 < r ∧ r < 65) ∨ (65 ≤ r ∧ r ≤ 90) ∨ (90 < r ∧ r < 95) ∨ r = 95 ∨ r = 96 ∨ (97 ≤ r ∧ r ≤ 122) ∨ (122 < r) := by omega
    have hv : ∃ b, isSep (r : Int) = b ∧ (b = true ↔ ¬ ((48 ≤ r ∧ r ≤ 57) ∨ (97 ≤ r ∧ r ≤ 122) ∨ (65 ≤ r ∧ r ≤ 90) ∨ r = 95)) := by
      refine ⟨_, rfl, ?_⟩
      unfold isSep
      rw [if_pos (by omega)]
      simp
      omega
    obtain ⟨b, hb, hb2⟩ := hv
    rw [hb]
    clear hT
    rcases hc with h | h | h | h | h | h | h | h | h
    all_goals (
      first
        | (have hbt : b = true := hb2.2 (by omega))
        | (have hbt : b = false := by cases b; rfl; exact absurd (hb2.1 rfl) (by simp; omega))
      subst hbt
      first
        | (have d2 : decide (48 ≤ (r : Int)) = true := decide_eq_true (by omega))
        | (have d2 : decide (48 ≤ (r : Int)) = false := decide_eq_false (by omega))
      first
        | (have d3 : decide ((r : Int) ≤ 57) = true := decide_eq_true (by omega))
        | (have d3 : decide ((r : Int) ≤ 57) = false := decide_eq_false (by omega))
      first
        | (have d4 : decide (97 ≤ (r : Int)) = true := decide_eq_true (by omega))
        | (have d4 : decide (97 ≤ (r : Int)) = false := decide_eq_false (by omega))
      first
        | (have d5 : decide ((r : Int) ≤ 122) = true := decide_eq_true (by omega))
        | (have d5 : decide ((r : Int) ≤ 122) = false := decide_eq_false (by omega))
      first
        | (have d6 : decide (65 ≤ (r : Int)) = true := decide_eq_true (by omega))
        | (have d6 : decide (65 ≤ (r : Int)) = false := decide_eq_false (by omega))
      first
        | (have d7 : decide ((r : Int) ≤ 90) = true := decide_eq_true (by omega))
        | (have d7 : decide ((r : Int) ≤ 90) = false := decide_eq_false (by omega))
      first
        | (have d8 : ((r : Int) == 95) = true := by simp; omega)
        | (have d8 : ((r : Int) == 95) = false := by simp; omega)
      clear h hb hb2 hl hr
      go_enter Tryd.func63, Tryd.ntmps63
      go_wp2
      go_ret
      exact ⟨rfl, Below.refl _ _⟩)
  · have d1 : decide ((r : Int) ≤ 127) = false := decide_eq_false (by omega)
    have hv : isSep (r : Int) = if (Lib.isLetterU (r : Int) || Lib.isDigitU (r : Int)) = true then false else Lib.isSpaceZ (r : Int) := by
      unfold isSep
      rw [if_neg (by omega)]
    have hL := let_c r hr w hT
    have hD := fun W (h : Below w.heap.size w W) => Aside0.mk (dig_c r hr W (hT.below h))
    have hS := fun W (h : Below w.heap.size w W) => Aside0.mk (spc_c r hr W (hT.below h))
    rw [hv]
    generalize Lib.isLetterU (r : Int) = b1 at *
    generalize Lib.isDigitU (r : Int) = b2 at *
    generalize Lib.isSpaceZ (r : Int) = b3 at *
    clear hv hT hl
    cases b1 <;> cases b2 <;> cases b3
    all_goals (
      go_enter Tryd.func63, Tryd.ntmps63
      go_wp2_with (first
        | (go_at_call 81; refine hL.mono ?_; rintro e w1 ⟨rfl, hb1⟩; have HB := Aside0.mk hb1; clear hb1)
        | (go_at_call 82; refine (hD _ HB.out).out.mono ?_; rintro e w2 ⟨rfl, hb2⟩; have HB2 := Aside0.mk (HB.out.trans (hb2.mono HB.out.size)); clear hb2)
        | (go_at_call 83; refine (hS _ HB2.out).out.mono ?_; rintro e w3 ⟨rfl, hb3⟩; have HB3 := Aside0.mk (HB2.out.trans (hb3.mono HB2.out.size)); clear hb3))
      go_ret
      first
        | exact ⟨rfl, HB3.out⟩
        | exact ⟨rfl, HB2.out⟩
        | exact ⟨rfl, HB.out⟩)
def QK (r : Int) : Prop := 32 ≤ r ∧ r ≤ 1114111
/-- what stays beside toTitle's variable -/
def FT (bi : Nat) : Nat → Option Obj := fun k => if k = bi then some (.cells #[.bool false] 4 (0, 0)) else none
def CT (p : Int) : Obj := .cells #[.int .i32 p] 21 (0, 0)
def FU : Nat → Option Obj := fun _ => none
def CU (_ : Int) : Obj := .cells #[.bool false] 4 (0, 0)
theorem drewN_heap (w : World) (q : Nat) : (w.drewN q).heap = w.heap := rfl
set_option maxHeartbeats 2000000 in
theorem clo_t (w0 : World) (hT : Tb w0) (bi bp : Nat) (hne : bi ≠ bp) (hbp : w0.heap.size ≤ bp) :
    Clo 62 #[.pointer (some ⟨bi, 0, none⟩), .pointer (some ⟨bp, 0, none⟩)] w0.heap.size (FT bi) bp CT w0 QK gT := by
  intro W p x hp hx hv
  obtain ⟨n, rfl⟩ : ∃ n : Nat, p = (n : Int) := ⟨p.toNat, by unfold QK at hp; omega⟩
  have hn : n ≤ 1114111 := by unfold QK at hp; omega
  have hx1 : 32 ≤ x ∧ x ≤ 1114111 := by unfold QK at hx; omega
  have hTW := hT.below hv.bel
  have hbi := hv.ci bi _ (if_pos rfl)
  have hbq := hv.cp
  unfold CT at hbq
  have hsz := fresh_in hbq
  have HI : ∀ W', Below W.heap.size W W' → Aside0 (W'.cell? ⟨bi, 0, none⟩ = some (.bool false) ∧ W'.cell? ⟨bp, 0, none⟩ = some (.int .i32 (n : Int)) ∧ W'.frozen? ⟨bp, 0, none⟩ = false) := fun W' hb => by
    have h1 := (hb.block bi (fresh_in hbi)).trans hbi
    have h2 := (hb.block bp hsz).trans hbq
    exact ⟨by rw [Lib.cell_of_heap h1]; rfl, by rw [Lib.cell_of_heap h2]; rfl, by simp [World.frozen?, h2]⟩
  have HI2 : ∀ W', Below W.heap.size W W' → Aside0 ((W'.setCell ⟨bp, 0, none⟩ (.int .i32 (x : Int))).cell? ⟨bi, 0, none⟩ = some (.bool false)) := fun W' hb => by
    have h1 := (hb.block bi (fresh_in hbi)).trans hbi
    have h3 : (W'.setCell ⟨bp, 0, none⟩ (.int .i32 (x : Int))).heap[bi]? = some (.cells #[.bool false] 4 (0, 0)) := by rw [Below.heap_setCell _ _ _ _ hne]; exact h1
    exact ⟨by rw [Lib.cell_of_heap h3]; rfl⟩
  have HEND : ∀ W' q, Below W.heap.size W W' → Aside0 (W.grownBy ((W'.setCell ⟨bp, 0, none⟩ (.int .i32 (x : Int))).drewN q) (some bp) ∧ ((W'.setCell ⟨bp, 0, none⟩ (.int .i32 (x : Int))).drewN q).heap[bp]? = some (CT (x : Int))) := fun W' q hb => by
    have h2 := (hb.block bp hsz).trans hbq
    refine ⟨⟨hb.os, hb.tape, hb.output, ?_, fun k hk hk2 => ?_⟩, ?_⟩
    · rw [drewN_heap]
      simp only [World.setCell, Array.size_modify]
      exact hb.size
    · rw [drewN_heap, Below.heap_setCell _ _ _ _ (fun e => hk2 (by rw [e]))]
      exact hb.block k hk
    · rw [drewN_heap]
      simp [World.setCell, Array.getElem?_modify, h2, CT]
  have HTB : ∀ W', Below W.heap.size W W' → Aside0 (Tb (W'.setCell ⟨bp, 0, none⟩ (.int .i32 (x : Int)))) := fun W' hb => ⟨hT.below ((hv.bel.trans (hb.mono hv.bel.size)).setCell hbp _)⟩
  obtain ⟨⟨h1, h2, h3⟩⟩ := HI W (Below.refl _ _)
  have hS := sep_c n hn W hTW
  have d27 : ((x : Int) == 27) = false := by simp; omega
  have d27' : ¬ ((x : Int) = 27) := by omega
  have hg : gT (n : Int) x = if isSep (n : Int) = true then Lib.toUpperU ((x : Nat) : Int) else ((x : Nat) : Int) := rfl
  rw [hg]
  have HI0 := HI
  clear hg HI hT hTW hv hbi hbq hp hx hx1 hn
  cases hs : isSep (n : Int)
  · rw [hs] at hS
    rw [if_neg (by simp)]
    clear hs HTB
    go_enter Tryd.func62, Tryd.ntmps62
    go_wp2_with (go_at_call 63; refine hS.mono ?_; rintro e w1 ⟨rfl, hb⟩; obtain ⟨⟨k1, k2, k3⟩⟩ := HI0 w1 hb; obtain ⟨k4⟩ := HI2 w1 hb; have HE := HEND w1 0 hb)
    go_ret
    exact ⟨rfl, HE.out⟩
  · rw [hs] at hS
    rw [if_pos rfl]
    clear hs
    go_enter Tryd.func62, Tryd.ntmps62
    go_wp2_with (first
      | (go_at_call 63; refine hS.mono ?_; rintro e w1 ⟨rfl, hb⟩; obtain ⟨⟨k1, k2, k3⟩⟩ := HI0 w1 hb; obtain ⟨k4⟩ := HI2 w1 hb; have HE := fun q => HEND w1 q hb; have HTB1 := HTB w1 hb)
      | (go_at_call 64; refine (up_c (x : Int) _ HTB1.out).mono ?_; rintro e w2 ⟨rfl, q, rfl⟩))
    go_ret
    exact ⟨rfl, (HE _).out⟩
set_option maxHeartbeats 2000000 in
theorem clo_u (w0 : World) (hT : Tb w0) (bp : Nat) (hbp : w0.heap.size ≤ bp) :
    Clo 65 #[.pointer (some ⟨bp, 0, none⟩)] w0.heap.size FU bp CU w0 QK gU := by
  intro W p x hp hx hv
  have hx1 : 32 ≤ x ∧ x ≤ 1114111 := by unfold QK at hx; omega
  have hTW := hT.below hv.bel
  have hbq := hv.cp
  unfold CU at hbq
  have h1 : W.cell? ⟨bp, 0, none⟩ = some (.bool false) := by rw [Lib.cell_of_heap hbq]; rfl
  have hU := up_c (x : Int) W hTW
  have HEND : ∀ q, Aside0 (W.grownBy (W.drewN q) (some bp) ∧ (W.drewN q).heap[bp]? = some (CU (x : Int))) := fun q => by
    have hd := pw_below_drewN (Below.refl W.heap.size W) q
    exact ⟨⟨hd.os, hd.tape, hd.output, hd.size, fun k hk _ => hd.block k hk⟩, (hd.block bp (fresh_in hbq)).trans hbq⟩
  have d27 : ((x : Int) == 27) = false := by simp; omega
  have d27' : ¬ ((x : Int) = 27) := by omega
  unfold gU
  clear hT hTW hv hbq hp hx hx1
  go_enter Tryd.func65, Tryd.ntmps65
  go_wp2_with (go_at_call 64; refine hU.mono ?_; rintro e w2 ⟨rfl, q, rfl⟩)
  go_ret
  exact ⟨rfl, (HEND _).out⟩
end Go.Proofs.YtphnnbbgcnilgaaDoor.FmC

namespace Go.Proofs.YtphnnbbgcnilgaaDoor.FmD
open Go Go.RowKit Go.Proofs.YtphnnbbgcnilgaaDoorW.PrintWords Go.Proofs.YtphnnbbgcnilgaaDoor.Common Go.Proofs.YtphnnbbgcnilgaaDoor.FmA Go.Proofs.YtphnnbbgcnilgaaDoor.FmM Go.Proofs.YtphnnbbgcnilgaaDoor.FmC
set_option linter.unusedVariables false
set_option linter.unusedSimpArgs false
set_option maxRecDepth 1000000
theorem size_of (s : ByteArray) (h : kn s) : s.size < 35184372088832 := by have := h.1; omega
theorem qk_of (s : ByteArray) (h : kn s) : ∀ r ∈ runes s, QK ((r : Nat) : Int) := fun r hr => by
  have := (kn_of s h).2.1 r hr
  unfold QK
  omega
theorem gT_max (p : Int) (x : Nat) (h : QK (x : Int)) : 0 ≤ gT p x ∧ gT p x ≤ 2147483647 := by
  have := Lib.toUpperU_range x (by unfold QK at h; omega)
  unfold gT
  unfold QK at h
  split <;> omega
theorem gU_max (p : Int) (x : Nat) (h : QK (x : Int)) : 0 ≤ gU p x ∧ gU p x ≤ 2147483647 := Lib.toUpperU_range x (by unfold QK at h; omega)
set_option maxHeartbeats 2000000 in
theorem title_c (s : ByteArray) (hs : kn s) (w : World) (hT : Tb w) : Calls Tryd.prog 42 #[.string s] w fun e w' => e = .returned (.string (ofL (mapR gT 32 (runes s)))) ∧ Below w.heap.size w w' := by
  have hc := fun (W : World) (hv : Vars w.heap.size (FT (w.heap.size + 1)) w.heap.size CT w 32 W) => FmNT.map_c w.heap.size (FT (w.heap.size + 1)) (w.heap.size + 1) w.heap.size CT w QK gT (clo_t w hT (w.heap.size + 1) w.heap.size (by omega) (Nat.le_refl _))
    (fun p x _ hx => gT_max p x hx) (Nat.le_refl _) (fun k o hk => by unfold FT at hk; split at hk; omega; cases hk) s (runes s) 32 W (size_of s hs) (kn_of s hs).1 (qk_of s hs) (by unfold QK; omega) hv
  clear hT
  go_enter Tryd.func42, Tryd.ntmps42
  have hV : Vars w.heap.size (FT (w.heap.size + 1)) w.heap.size CT w 32 ((w.alloc (.cells #[.int .i32 32] 21)).alloc (.cells #[.bool false] 4)) := by
    refine ⟨fun k o hk => ?_, ?_, ((Below.refl _ w).alloc (Nat.le_refl _) _).alloc (by simp) _⟩
    · unfold FT at hk
      split at hk
      · rename_i hk2
        subst hk2
        injection hk with hk
        subst hk
        have := heap_alloc_new (w.alloc (.cells #[.int .i32 32] 21)) (.cells #[.bool false] 4)
        simpa using this
      · cases hk
    · have h1 := heap_alloc_new w (.cells #[.int .i32 32] 21)
      exact (Below.heap_alloc _ _ _ (by simp)).trans h1
  go_wp2_with (go_at_call 60; refine (hc _ hV).mono ?_; rintro e w2 ⟨rfl, hb⟩)
  go_ret
  exact ⟨rfl, hb⟩
set_option maxHeartbeats 2000000 in
theorem upper_c (s : ByteArray) (hs : kn s) (w : World) (hT : Tb w) : Calls Tryd.prog 43 #[.string s] w fun e w' => e = .returned (.string (ofL (mapR gU 0 (runes s)))) ∧ Below w.heap.size w w' := by
  have hm : ∀ (rs : List Nat) (p q : Int), mapR gU p rs = mapR gU q rs := fun rs p q => by cases rs <;> rfl
  have hc := fun (W : World) (hv : Vars w.heap.size FU w.heap.size CU w 32 W) => FmNU.map_c w.heap.size FU w.heap.size CU w QK gU (clo_u w hT w.heap.size (Nat.le_refl _))
    (fun p x _ hx => gU_max p x hx) (Nat.le_refl _) (fun k o hk => by cases hk) s (runes s) 32 W (size_of s hs) (kn_of s hs).1 (qk_of s hs) (by unfold QK; omega) hv
  rw [hm _ 32 0] at hc
  clear hT hm
  go_enter Tryd.func43, Tryd.ntmps43
  have hV : Vars w.heap.size FU w.heap.size CU w 32 (w.alloc (.cells #[.bool false] 4)) :=
    ⟨fun k o hk => (by cases hk), heap_alloc_new w _, (Below.refl _ w).alloc (Nat.le_refl _) _⟩
  go_wp2_with (go_at_call 60; refine (hc _ hV).mono ?_; rintro e w2 ⟨rfl, hb⟩)
  go_ret
  exact ⟨rfl, hb⟩
set_option maxHeartbeats 2000000 in
theorem apply_c (f : Int) (hf : f = 0 ∨ f = 1 ∨ f = 2 ∨ f = 3) (s : ByteArray) (hs : okT f s) (w : World) (hT : f ≠ 0 → Tb w) : Calls Tryd.prog 27 #[.int .i64 f, .string s] w fun e w' => e = .returned (.string (FF f s)) ∧ Below w.heap.size w w' := by
  rcases hf with rfl | rfl | rfl | rfl
  · rw [FF_zero]
    clear hT hs
    go_enter Tryd.func27, Tryd.ntmps27
    go_wp2
    go_ret
    exact ⟨rfl, Below.refl _ _⟩
  · have hk := hs.2.resolve_left (by omega)
    have hw := hT (by omega)
    have hL := Tryd.strings_ToLower_any s w (size_of s hk) hw.cv hw.u8
    clear hT hs hw
    go_enter Tryd.func27, Tryd.ntmps27
    go_wp2_with (go_at_call 41; refine hL.mono ?_; rintro e w2 ⟨rfl, hb⟩)
    go_ret
    exact ⟨rfl, hb⟩
  · have hL := title_c s (hs.2.resolve_left (by omega)) w (hT (by omega))
    clear hT hs
    go_enter Tryd.func27, Tryd.ntmps27
    go_wp2_with (go_at_call 42; refine hL.mono ?_; rintro e w2 ⟨rfl, hb⟩)
    go_ret
    exact ⟨rfl, hb⟩
  · have hL := upper_c s (hs.2.resolve_left (by omega)) w (hT (by omega))
    clear hT hs
    go_enter Tryd.func27, Tryd.ntmps27
    go_wp2_with (go_at_call 43; refine hL.mono ?_; rintro e w2 ⟨rfl, hb⟩)
    go_ret
    exact ⟨rfl, hb⟩
set_option maxHeartbeats 2000000 in
theorem format_c (f : Int) (hf : f = 0 ∨ f = 1 ∨ f = 2 ∨ f = 3) (s : ByteArray) (hs : okT f s) (w : World) (hT : f ≠ 0 → Tb w) : Calls Tryd.prog 14 #[.int .i64 f, .string s] w fun e w' => e = .returned (.string (FF f s)) ∧ Below w.heap.size w w' := by
  have hA := apply_c f hf s hs w hT
  clear hT hs hf
  go_enter Tryd.func14, Tryd.ntmps14
  go_wp2_with (go_at_call 27; refine hA.mono ?_; rintro e w2 ⟨rfl, hb⟩)
  go_ret
  exact ⟨rfl, hb⟩
end Go.Proofs.YtphnnbbgcnilgaaDoor.FmD
