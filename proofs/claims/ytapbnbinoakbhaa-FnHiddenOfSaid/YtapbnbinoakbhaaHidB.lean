/-
  Proved: what the closure of table.hideColumns does to rows. Conditions: at most 100 rows of at most 2147483647 cells.
-/
import Derived.Test.YtapbnbinoakbhaaGEZx
import Derived.Test.YtapbnbinoakbhaaHidA
namespace Go.Proofs.Ytapbnbinoakbhaa.HidB
open Go.RowKit Go.Proofs.YtapbnbinoakbhaaW.PrintWords Go.Proofs.Ytapbnbinoakbhaa.Common Go.Proofs.Ytapbnbinoakbhaa.ZReg Go.Proofs.Ytapbnbinoakbhaa.ZWid Go.Proofs.Ytapbnbinoakbhaa.IMap Go.Proofs.Ytapbnbinoakbhaa.GEZ
set_option linter.unusedVariables false
set_option linter.unusedSimpArgs false
set_option maxRecDepth 1000000

theorem info9 : (Try.prog.info? 9).map (fun i => (i.zero, i.size, i.bytes)) = some (some (.string ⟨#[]⟩), 1, 16) := by kernel_rfl
def hidTo (hd : Nat → Bool) (r : List ByteArray) : Nat → List ByteArray
  | 0 => []
  | j + 1 => if hd j = true then hidTo hd r j else hidTo hd r j ++ [rdOf ByteArray.empty r (j : Int)]
theorem hidTo_len (hd : Nat → Bool) (r : List ByteArray) : ∀ j, (hidTo hd r j).length ≤ j
  | 0 => Nat.le_refl _
  | j + 1 => by
    unfold hidTo
    have := hidTo_len hd r j
    split
    · omega
    · rw [List.length_append, List.length_singleton]; omega
theorem hidTo_yes (hd : Nat → Bool) (r : List ByteArray) (j : Nat) (h : hd j = true) : hidTo hd r (j + 1) = hidTo hd r j := by
  show (if _ then _ else _) = _
  rw [if_pos h]
theorem hidTo_no (hd : Nat → Bool) (r : List ByteArray) (j : Nat) (h : hd j = false) : hidTo hd r (j + 1) = hidTo hd r j ++ [rdOf ByteArray.empty r (j : Int)] := by
  show (if _ then _ else _) = _
  rw [if_neg (by rw [h]; decide)]
def hidRow (hd : Nat → Bool) (r : List ByteArray) : List ByteArray := hidTo hd r r.length
def rowsTo (hd : Nat → Bool) (l : List (List ByteArray)) : Nat → List (List ByteArray)
  | 0 => []
  | i + 1 => rowsTo hd l i ++ [hidRow hd (rd_L1 l (i : Int))]
theorem rowsTo_len (hd : Nat → Bool) (l : List (List ByteArray)) : ∀ i, (rowsTo hd l i).length = i
  | 0 => rfl
  | i + 1 => by
    show (rowsTo hd l i ++ [hidRow hd (rd_L1 l (i : Int))]).length = _
    rw [List.length_append, rowsTo_len hd l i]; rfl
def numTo (hd : Nat → Bool) (l : List (List ByteArray)) (n0 : Nat) : Nat → Nat
  | 0 => n0
  | i + 1 => if numTo hd l n0 i < (hidRow hd (rd_L1 l (i : Int))).length then (hidRow hd (rd_L1 l (i : Int))).length else numTo hd l n0 i

def Keep (w : World) (Bn cm : Nat) (wr : World) : Prop := ∀ k, k < w.heap.size → k ≠ Bn → k ≠ cm → wr.heap[k]? = w.heap[k]?

/-- what stands at the call's beginning -/
structure HS0 (B : Nat) (w0 w : World) (bt Bt Bm Bn mr cm : Nat) (hs : Nat → Bool) (m : Nat) : Prop where
  tb : ∃ T : Array Value, w.heap[bt]? = some (.cells T 153 (0, 0)) ∧ T[6]? = some (.map (some mr))
  pt : w.heap[Bt]? = some (.cells #[.pointer (some ⟨bt, 0, none⟩)] 131 (0, 0))
  pm : w.heap[Bm]? = some (.cells #[.map (some cm)] 155 (0, 0))
  map : imap w .i64 mr (mapF hs m)
  ne : mr ≠ cm
  bn : B ≤ Bn
  bc : B ≤ cm
  num : ∃ n : Nat, w.heap[Bn]? = some (.cells #[.int .i64 (n : Int)] 3 (0, 0))
  cmp : ∃ f, imap w .i64 cm f
/-- .. and on the way -/
structure HI (B : Nat) (w0 w : World) (Bn cm n : Nat) (v6 : Value) (x6 : List (List ByteArray)) (v9 : Value) (x9 : List ByteArray) (wr : World) : Prop where
  keep : Keep w Bn cm wr
  size : w.heap.size ≤ wr.heap.size
  num : wr.heap[Bn]? = some (.cells #[.int .i64 (n : Int)] 3 (0, 0))
  map : ∃ f, imap wr .i64 cm f
  rows : Kd.S (Kd.slice 9 Kd.string) 162 wr w.heap.size (fun k => some k ≠ v9.ownBlock) v6 x6
  row : Kd.R Kd.string 9 wr w.heap.size (fun _ => True) v9 x9
  bel : Below B w0 wr
theorem Keep.trans {w wr w1 : World} {Bn cm : Nat} (h : Keep w Bn cm wr) (hs : w.heap.size ≤ wr.heap.size) (h1 : ∀ k, k < wr.heap.size → k ≠ Bn → k ≠ cm → w1.heap[k]? = wr.heap[k]?) : Keep w Bn cm w1 :=
  fun k hk a b => (h1 k (Nat.lt_of_lt_of_le hk hs) a b).trans (h k hk a b)
variable {B : Nat} {w0 w wr w1 : World} {bt Bt Bm Bn mr cm n m : Nat} {hs : Nat → Bool} {v6 v9 : Value} {x6 : List (List ByteArray)} {x9 : List ByteArray}
theorem not_map {k : Nat} {X : Array Value} {t : TypeId} {fr : Nat × Nat} {f : Int → Option Value} (hb : w.heap[k]? = some (.cells X t fr)) (hm : imap w .i64 cm f) : k ≠ cm := fun e => by
  subst e
  obtain ⟨es, ck, h, _⟩ := hm
  rw [hb] at h
  cases h
theorem HS0.at (h : HS0 B w0 w bt Bt Bm Bn mr cm hs m) (hk : Keep w Bn cm wr) :
    wr.cell? ⟨Bt, 0, none⟩ = some (.pointer (some ⟨bt, 0, none⟩)) ∧ wr.cell? ⟨bt, 6, none⟩ = some (.map (some mr)) ∧ wr.cell? ⟨Bm, 0, none⟩ = some (.map (some cm)) ∧ imap wr .i64 mr (mapF hs m) := by
  obtain ⟨T, hT, h6⟩ := h.tb
  obtain ⟨n, hn⟩ := h.num
  obtain ⟨f, hf⟩ := h.cmp
  have k1 := (hk bt (Array.getElem?_eq_some_iff.1 hT).1 (type_ne hT hn (by decide)) (not_map hT hf)).trans hT
  have k2 := (hk Bt (Array.getElem?_eq_some_iff.1 h.pt).1 (type_ne h.pt hn (by decide)) (not_map h.pt hf)).trans h.pt
  have k3 := (hk Bm (Array.getElem?_eq_some_iff.1 h.pm).1 (type_ne h.pm hn (by decide)) (not_map h.pm hf)).trans h.pm
  refine ⟨(cell_of_row _ _ _ _ _ _ k2).trans rfl, (cell_of_row _ _ _ _ _ _ k1).trans h6, (cell_of_row _ _ _ _ _ _ k3).trans rfl, imap_of_heap h.map (hk mr (imap_lt h.map) (fun e => ?_) h.ne)⟩
  subst e
  obtain ⟨es, ck, hm, _⟩ := h.map
  rw [hn] at hm
  cases hm
theorem HI.below (h : HI B w0 w Bn cm n v6 x6 v9 x9 wr) (hB : B ≤ w.heap.size) (hb : Below wr.heap.size wr w1) : HI B w0 w Bn cm n v6 x6 v9 x9 w1 := by
  obtain ⟨f, hf⟩ := h.map
  exact ⟨h.keep.trans h.size (fun k hk _ _ => hb.block k hk), Nat.le_trans h.size hb.size, (hb.block _ (Array.getElem?_eq_some_iff.1 h.num).1).trans h.num, ⟨f, imap_below hf hb (imap_lt hf)⟩, Kd.S_below h.rows hb, Kd.R_below h.row hb, h.bel.trans (hb.mono (Nat.le_trans hB h.size))⟩
theorem HI.put (h : HI B w0 w Bn cm n v6 x6 v9 x9 wr) (hB : B ≤ w.heap.size) (hc : B ≤ cm) (hcw : cm < w.heap.size) (hg : wr.grownBy w1 (some cm)) {f : Int → Option Value} (hm : imap w1 .i64 cm f) : HI B w0 w Bn cm n v6 x6 v9 x9 w1 := by
  obtain ⟨f0, hf0⟩ := h.map
  have hn : Bn ≠ cm := not_map h.num hf0
  have hsz : wr.heap.size ≤ w1.heap.size := hg.size
  have hne : ∀ k, w.heap.size ≤ k → some k ≠ some cm := fun k hk e => by injection e with e; omega
  refine ⟨h.keep.trans h.size (fun k hk _ b => hg.block k hk (fun e => b (by injection e))), Nat.le_trans h.size hsz, (hg.block _ (Array.getElem?_eq_some_iff.1 h.num).1 (fun e => hn (by injection e))).trans h.num, ⟨f, hm⟩, ?_, ?_, h.bel.grown hg (Nat.le_trans hB h.size) (fun k hk => by injection hk with hk; omega)⟩
  · exact Kd.S_mono (Kd.S_grown (Kd.S_bound h.rows) hg (fun k hk => hne k hk.2.1)) (fun k hk => hk.1)
  · exact Kd.R_mono (Kd.R_grown (Kd.R_bound h.row) hg (fun k hk => hne k hk.2.1)) (fun k hk => hk.1)
theorem HI.setNum (h : HI B w0 w Bn cm n v6 x6 v9 x9 wr) (hb : B ≤ Bn) (hbw : Bn < w.heap.size) (n' : Nat) :
    wr.cell? ⟨Bn, 0, none⟩ = some (.int .i64 (n : Int)) ∧ wr.frozen? ⟨Bn, 0, none⟩ = false ∧ HI B w0 w Bn cm n' v6 x6 v9 x9 (wr.setCell ⟨Bn, 0, none⟩ (.int .i64 (n' : Int))) := by
  obtain ⟨f0, hf0⟩ := h.map
  have hne : ∀ k, w.heap.size ≤ k → k ≠ Bn := fun k hk e => by omega
  refine ⟨(cell_of_row _ _ _ _ _ _ h.num).trans rfl, by simp [World.frozen?, h.num], ⟨h.keep.trans h.size (fun k _ a _ => set_block wr Bn 0 k _ a), by simp; exact h.size, ?_, ⟨f0, imap_setCell hf0 _ (not_map h.num hf0) _⟩, ?_, ?_, h.bel.setCell hb _⟩⟩
  · simp [World.setCell, Array.getElem?_modify, h.num]
  · exact Kd.S_mono (Kd.S_far (Kd.S_bound h.rows) (fun k hk => hne k hk.2.1) _) (fun k hk => hk.1)
  · exact Kd.R_mono (Kd.R_far (Kd.R_bound h.row) (fun k hk => hne k hk.2.1) _) (fun k hk => hk.1)
theorem HI.app {v1 : Value} {y : List ByteArray} (h : HI B w0 w Bn cm n v6 x6 v9 x9 wr) (hB : B ≤ w.heap.size) (ho : Kd.R Kd.string 9 w1 w.heap.size (fun _ => True) v1 y) (hg : wr.grownBy w1 v9.ownBlock) (hat : v1.ownBlock = v9.ownBlock ∨ ∃ b, v1.ownBlock = some b ∧ wr.heap.size ≤ b) : HI B w0 w Bn cm n v6 x6 v1 y w1 := by
  obtain ⟨f0, hf0⟩ := h.map
  have hbase := Kd.R_base h.row
  have hold : ∀ k, k < w.heap.size → w1.heap[k]? = wr.heap[k]? := fun k hk => hg.block k (Nat.lt_of_lt_of_le hk h.size) (fun e => by have := hbase k e.symm; omega)
  have hnum : Bn < w.heap.size ∨ w.heap.size ≤ Bn := by omega
  refine ⟨?_, Nat.le_trans h.size hg.size, ?_, ?_, ?_, ho, h.bel.grown hg (Nat.le_trans hB h.size) (fun k hk => Nat.le_trans hB (hbase k hk))⟩
  · exact fun k hk a b => (hold k hk).trans (h.keep k hk a b)
  · exact (hg.block _ (Array.getElem?_eq_some_iff.1 h.num).1 (Kd.R_ne h.row h.num (by decide))).trans h.num
  · refine ⟨f0, imap_of_heap hf0 (hg.block _ (imap_lt hf0) (fun e => ?_))⟩
    obtain ⟨cells, hc⟩ := Kd.R_typed h.row cm e.symm
    exact not_map hc hf0 rfl
  · exact Kd.S_mono (Kd.S_after (ok := fun _ => True) (Kd.S_mono h.rows (fun _ hk => ⟨trivial, hk⟩)) hg hat) (fun _ hk => hk.2)
theorem HI.app2 {v1 : Value} {y : List (List ByteArray)} (h : HI B w0 w Bn cm n v6 x6 v9 x9 wr) (hB : B ≤ w.heap.size) (ho : Kd.S (Kd.slice 9 Kd.string) 162 w1 w.heap.size (fun _ => True) v1 y) (hg : wr.grownBy w1 v6.ownBlock) : HI B w0 w Bn cm n v1 y (.slice none 0 0) [] w1 := by
  obtain ⟨f0, hf0⟩ := h.map
  have hbase := Kd.S_base h.rows
  have hold : ∀ k, k < w.heap.size → w1.heap[k]? = wr.heap[k]? := fun k hk => hg.block k (Nat.lt_of_lt_of_le hk h.size) (fun e => by have := hbase k e.symm; omega)
  refine ⟨?_, Nat.le_trans h.size hg.size, ?_, ?_, ?_, Kd.R_nil _ _ _ _ _, h.bel.grown hg (Nat.le_trans hB h.size) (fun k hk => Nat.le_trans hB (hbase k hk))⟩
  · exact fun k hk a b => (hold k hk).trans (h.keep k hk a b)
  · exact (hg.block _ (Array.getElem?_eq_some_iff.1 h.num).1 (Kd.S_ne h.rows h.num (by decide))).trans h.num
  · refine ⟨f0, imap_of_heap hf0 (hg.block _ (imap_lt hf0) (fun e => ?_))⟩
    obtain ⟨cells, hc⟩ := Kd.S_typed h.rows cm e.symm
    exact not_map hc hf0 rfl
  · exact Kd.S_mono ho (fun k _ => by simp [Value.ownBlock])
def hdn (hs : Nat → Bool) (m : Nat) (j : Nat) : Bool := decide (j < m) && hs j
theorem map_get (hs : Nat → Bool) (m j : Nat) : (mapF hs m (j : Int)).getD (.agg (cfgV false)) = .agg (cfgV (hdn hs m j)) := by
  unfold mapF hdn
  by_cases h : j < m
  · rw [if_pos ⟨by omega, by omega⟩, decide_eq_true h, Int.toNat_natCast, Bool.true_and]; rfl
  · rw [if_neg (by omega), decide_eq_false h, Bool.false_and]; rfl
theorem row_at {ok : Nat → Prop} {A0 : Option Addr} {l0 : List (List ByteArray)} (HF : Kd.F (Kd.slice 9 Kd.string) w ok A0 l0.length l0) (hok : ∀ k, ok k → k ≠ Bn ∧ k ≠ cm) (i : Nat) (h : i < l0.length) :
    ∃ ad A c, A0 = some ad ∧ (rd_L1 l0 (i : Int)).length ≤ c ∧ ∀ wr, Keep w Bn cm wr → wr.cell? (ad.add i) = some (.slice A (rd_L1 l0 (i : Int)).length c) ∧ Kd.C Kd.string wr A (rd_L1 l0 (i : Int)).length (rd_L1 l0 (i : Int)) := by
  obtain ⟨ad, c, e, hcl, hFK, hcc, hokad⟩ := Kd.F_get HF [] (i : Int) (by omega) (by omega)
  obtain ⟨ua, uc, rfl, ul, ge⟩ := Kd.FK_slice_open hFK
  have h0 := hcc 0 _ rfl
  rw [Int.toNat_natCast, show ((Kd.slice 9 Kd.string)).sz = 1 from rfl, Nat.mul_one, Nat.add_zero] at h0
  have hblk : ad.block < w.heap.size := by have := World.block_lt_of_cell? w _ h0; rwa [show (ad.add i).block = ad.block from add_block _ _] at this
  have hb := hok _ (hokad (by decide))
  refine ⟨ad, ua, uc, e, ul, fun wr hk => ⟨?_, ge wr (fun k ho hlt => hk k hlt (hok k ho).1 (hok k ho).2)⟩⟩
  have := hk _ hblk hb.1 hb.2
  show _ = some (Value.slice ua (l0.getD i []).length uc)
  rw [← h0]
  simp [World.cell?, add_block, this]
end Go.Proofs.Ytapbnbinoakbhaa.HidB
