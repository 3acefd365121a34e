/-
  Proved: what newDecimal returns. Conditions: a whole number from 1 on, under 2^64.
-/
import Derived.Test.YtgemoagbefdemaaUnB
import Derived.Test.YtgemoagbefdemaaItoa0
import Derived.Test.YtgemoagbefdemaaBRow
namespace Go.Proofs.Ytgemoagbefdemaa.UnD
open Go.RowKit Go.Proofs.YtgemoagbefdemaaW.PrintWords Go.Proofs.Ytgemoagbefdemaa.Common Go.Proofs.Ytgemoagbefdemaa.GEU Go.Proofs.Ytgemoagbefdemaa.UnB
set_option linter.unusedVariables false
set_option linter.unusedSimpArgs false
set_option maxRecDepth 1000000
def val (l : List UInt8) : List Int := l.map fun b => (b.toNat : Int) - 48
structure J (B g bs : Nat) (w0 : World) (l : List UInt8) (v : Value) (ds : List Int) (wr : World) : Prop where
  blk : wr.heap[g]? = some (.cells #[v, .int .i64 0] 52 (0, 0))
  row : Kd.R (Kd.int .u8) 5 wr B (fun k => k ≠ bs) v ds
  src : ∃ (cur : Array Value) (m : Nat), wr.heap[bs]? = some (.cells cur 5 (m, m + 1)) ∧ ∀ (j : Nat) (h : j < l.length), cur[j]? = some (.int .u8 (l[j].toNat : Int))
  bel : Below B w0 wr
  bg : B ≤ g
variable {B g bs : Nat} {w0 wr w2 : World} {l : List UInt8} {v v2 : Value} {ds ds2 : List Int}
theorem J.here (h : J B g bs w0 l v ds wr) (hg : wr.grownBy w2 v.ownBlock) : w2.heap[g]? = some (.cells #[v, .int .i64 0] 52 (0, 0)) := by
  have hne : some g ≠ v.ownBlock := fun e => by
    obtain ⟨cs, hc⟩ := Kd.R_typed h.row g e.symm
    rw [h.blk] at hc
    injection hc with hc
    injection hc with _ hc
    exact absurd hc (by decide)
  exact (hg.block g (Array.getElem?_eq_some_iff.1 h.blk).1 hne).trans h.blk
theorem J.fre (h : J B g bs w0 l v ds wr) : ∀ k, wr.heap.size ≤ k → k ≠ bs := by
  obtain ⟨cur, m, hs, hc⟩ := h.src
  have := (Array.getElem?_eq_some_iff.1 hs).1
  intro k hk e
  omega
theorem J.push (h : J B g bs w0 l v ds wr) (hg : wr.grownBy w2 v.ownBlock) (hr : Kd.R (Kd.int .u8) 5 w2 B (fun k => k ≠ bs) v2 ds2) : J B g bs w0 l v2 ds2 (w2.setCell ⟨g, 0, none⟩ v2) := by
  have hne : some g ≠ v.ownBlock := fun e => by
    obtain ⟨cs, hc⟩ := Kd.R_typed h.row g e.symm
    rw [h.blk] at hc
    injection hc with hc
    injection hc with _ hc
    exact absurd hc (by decide)
  have hb2 := (hg.block g (Array.getElem?_eq_some_iff.1 h.blk).1 hne).trans h.blk
  obtain ⟨cur, m, hs, hc⟩ := h.src
  have hs2 := (hg.block bs (Array.getElem?_eq_some_iff.1 hs).1 (fun e => absurd rfl (h.row.1 bs e.symm))).trans hs
  have hgs : bs ≠ g := fun e => by
    rw [e, hb2] at hs2
    injection hs2 with hs2
    injection hs2 with _ hs2
    exact absurd hs2 (by decide)
  refine ⟨?_, Kd.R_set hr hb2 five_ne 0 _, ⟨cur, m, ?_, hc⟩, (h.bel.grown hg ?_ (fun k hk => Kd.R_base h.row k hk)).setCell h.bg _, h.bg⟩
  · rw [set_cells _ g 0 _ _ _ hb2]
    rfl
  · rw [Below.heap_setCell _ _ _ _ hgs]
    exact hs2
  · exact Nat.le_of_lt (Nat.lt_of_le_of_lt h.bg (Array.getElem?_eq_some_iff.1 h.blk).1)
theorem J.cell (h : J B g bs w0 l v ds wr) (j : Nat) (hj : j < l.length) : wr.cell? ⟨bs, j, none⟩ = some (.int .u8 (l[j].toNat : Int)) := by
  obtain ⟨cur, m, hb, h3⟩ := h.src
  rw [cell_of_row wr bs j cur _ _ hb, h3 j hj]
theorem size_alloc (w : World) (o : Obj) : w.heap.size < (w.alloc o).heap.size := by
  show w.heap.size < (w.heap.push o).size
  rw [Array.size_push]
  omega
theorem J.d (h : J B g bs w0 l v ds wr) : D B w0 g v ds 0 wr := ⟨h.blk, Kd.R_mono h.row (fun _ _ => trivial), h.bel, h.bg⟩
set_option maxHeartbeats 4000000 in
theorem new_c (n : Nat) (hn : n < 18446744073709551616) (l : List UInt8) (hl : Lib.decDigits n = l) (hd : ∀ b ∈ l, 48 ≤ b.toNat ∧ b.toNat ≤ 57) (hlen : l.length ≤ 100) (w : World) :
    Calls Try.prog 19 #[.int .u64 (n : Int)] w fun e w' => ∃ g v', e = .returned (.pointer (some ⟨g, 0, none⟩)) ∧ D w.heap.size w g v' (trim (val l)) (tdp (val l) l.length) w' := by
  have HF := fun W => Aside0.mk (Itoa0.fmtUint n hn W)
  rw [hl] at HF
  obtain ⟨s, hs⟩ : ∃ s : ByteArray, s = ⟨l.toArray⟩ := ⟨_, rfl⟩
  have hsl : s.data.toList = l := by rw [hs]
  have hsz : s.size = l.length := by rw [← size_l, hsl]
  rw [← hs] at HF
  clear hs
  go_enter Try.func19, Try.ntmps19
  go_wp2_with (go_at_call 17; refine (HF _).out.mono ?_; rintro e w2 ⟨rfl, hb⟩; have HB := Aside0.mk hb; obtain ⟨cap, hcv⟩ := BRow.conv_of s w2; clear hb)
  rw [hsz] at hcv
  obtain ⟨bs, hbs⟩ : ∃ bs, bs = w2.heap.size := ⟨_, rfl⟩
  obtain ⟨w3, hw3⟩ : ∃ w3, w3 = (w2.alloc (Obj.cells (bytesRow s cap) 5 ((bytesRow s cap).size, (bytesRow s cap).size + 1))).drew := ⟨_, rfl⟩
  have HJ : Aside0 (J w.heap.size w.heap.size bs w l (.slice none 0 0) (val (l.take 0)) w3) := by
    have hb2 := HB.out
    have hsz2 : w.heap.size < w2.heap.size := Nat.lt_of_lt_of_le (size_alloc _ _) hb2.size
    have e1 : w2.heap[w.heap.size]? = some (.cells #[Value.slice none 0 0, Value.int IntKind.i64 0] 52 (0, 0)) := (hb2.block _ (size_alloc _ _)).trans (heap_alloc_new w _)
    refine ⟨⟨?_, Kd.R_nil _ _ _ _ _, ?_, ?_, Nat.le_refl _⟩⟩
    · rw [hw3]
      exact (Below.block (below_alloc (Below.refl w2.heap.size w2) _) _ hsz2).trans e1
    · obtain ⟨cur, m, hb, h1, h2, h3⟩ := (BRow.fresh s w2 cap).blk
      rw [hsl] at h3
      obtain ⟨wb, hwb⟩ : ∃ wb, wb = w2.drew.alloc (Obj.cells (bytesRow s cap) 5 ((bytesRow s cap).size, (bytesRow s cap).size + 1)) := ⟨_, rfl⟩
      rw [hw3, hbs]
      exact ⟨cur, m, hb, h3⟩
    · rw [hw3]
      exact below_drew1 (below_alloc (((below_alloc (Below.refl _ w) _).trans (hb2.mono (Nat.le_of_lt (size_alloc _ _))))) _)
  rw [← hbs, ← hw3]
  clear hcv hw3 HB HF hsl hsz
  go_loopg [5, 10] (l.length + 1) (fun gk v5 vi wr => ∃ (i : Nat) (v1 : Value), Value.int .i64 (i : Int) = vi ∧ i + gk = l.length + 1 ∧ i ≤ l.length ∧ Aside0 (J w.heap.size w.heap.size bs w l v1 (val (l.take i)) wr))
  case atStart => exact ⟨0, _, rfl, by omega, by omega, HJ⟩
  case round =>
    obtain ⟨i, v1, rfl, hig, hil, HR⟩ := hrel
    clear HJ
    have hblk := HR.out.blk
    have h0 := (blk_cell hblk 0).trans rfl
    change wr.cell? ⟨w.heap.size, 0, none⟩ = some v1 at h0
    have f0 : wr.frozen? ⟨w.heap.size, 0, none⟩ = false := by simp [World.frozen?, hblk]
    clear hblk
    obtain ⟨A1, c1, rfl⟩ := Kd.R_slice HR.out.row
    by_cases hi : i < l.length
    · have d1 : decide (i < l.length) = true := decide_eq_true hi
      have hx := HR.out.cell i hi
      have hdd := hd _ (List.getElem_mem hi)
      obtain ⟨b, hb⟩ : ∃ b, b = l[i].toNat := ⟨_, rfl⟩
      rw [← hb] at hx hdd
      have hw8 : IntKind.u8.wrap ((b : Int) - 48) = (b : Int) - 48 := by
        have : IntKind.u8.wrap ((b : Int) - 48) = ((b : Int) - 48) % 256 := rfl
        rw [this]
        omega
      have hval : val (l.take (i + 1)) = val (l.take i) ++ [(b : Int) - 48] := by
        unfold val
        rw [List.take_succ_eq_append_getElem hi, List.map_append, hb]
        rfl
      have hlt : (val (l.take i)).length = i := by simp [val]; omega
      have hro := HR.out.row
      have hlen2 : (val (l.take i)).length ≤ 100 := by omega
      have hw9 : ((b : Int) - 48) % 256 = (b : Int) - 48 := by omega
      have HV := Aside0.mk hval
      clear hval
      obtain ⟨dsi, hdsi⟩ : ∃ dsi, dsi = val (l.take i) := ⟨_, rfl⟩
      rw [← hdsi] at HV HR h0 hlen2
      clear hil hd hdd hbs hb hl hlt hro hdsi
      go_wp2_with ((with_reducible refine gate_builtin (b := .append) (xs := #[.tmp 15, .tmp 18]) rfl ?_); at_builtin; refine Kd.R_append (Kd.int .u8) (w0 := wr) w.heap.size rfl (.tmp 15) (.tmp 18) 50 5 (.int .u8 0) 1 rfl Try.underlying50 info5 rfl (by decide) (by omega) (.slice A1 dsi.length c1) dsi ((b : Int) - 48) [.int .u8 ((b : Int) - 48)] (fun k => k ≠ bs) (fun _ => False) rfl rfl ?aP (fun _ hk => hk.elim) ?aF ?aO (Below.refl _ _) ?aS ?aL ?_; (case aP => exact rfl); (case aF => exact HR.out.fre); (case aO => exact HR.out.row); (case aS => exact (HR.out.d).size); (case aL => omega); intro v2 w4 ho hb hg hat; obtain ⟨A2, c2, rfl⟩ := Kd.R_slice ho; have HJ2 := Aside0.mk (HR.out.push hg ho); have hh := HR.out.here hg; have h04 := (blk_cell hh 0).trans rfl; change w4.cell? ⟨w.heap.size, 0, none⟩ = some (.slice A1 dsi.length c1) at h04; have f04 : w4.frozen? ⟨w.heap.size, 0, none⟩ = false := (by simp [World.frozen?, hh]); clear hh; clear ho hb hg hat)
      have hle : (dsi ++ [(b : Int) - 48]).length = dsi.length + 1 := by rw [List.length_append]; rfl
      rw [hle] at HJ2
      go_roundg (gk - 1)
      case measure => omega
      case rel => exact ⟨i + 1, .slice A2 (dsi.length + 1) c2, by push_cast; rfl, by omega, by omega, ⟨by rw [HV.out]; exact HJ2.out⟩⟩
    · have d1 : decide (i < l.length) = false := decide_eq_false hi
      have hie : i = l.length := by omega
      subst hie
      have htk : l.take l.length = l := List.take_length
      rw [htk] at HR h0
      have hvl : (val l).length = l.length := by simp [val]
      have HD := Aside0.mk (HR.out.d)
      rw [hvl] at h0
      have f1 : wr.frozen? ⟨w.heap.size, 1, none⟩ = false := HD.out.cells.2.2.2
      have h1 := HD.out.cells.2.1
      have HD2 := Aside0.mk (HD.out.point (l.length : Int))
      have HT := Aside0.mk (trim_c HD2.out (by omega))
      clear hd hil hbs hl htk HR HD hvl
      go_wp2_with (go_at_call 25; refine (HT.out).mono ?_; rintro e w3 ⟨rfl, hv3⟩; have HV := Aside0.mk hv3; clear hv3)
      go_ret
      obtain ⟨v', hv⟩ := HV.out
      exact ⟨w.heap.size, v', rfl, hv⟩
end Go.Proofs.Ytgemoagbefdemaa.UnD
