/-
  Proved: what impl.move returns of a pager, and where the pager is then. Conditions: the pager lies in a block of its own; it is at one of its pages; the move is of one of the kinds 0 to 4.
-/
import Derived.Test.YtkfkhafmgndgaaaRRPager2
namespace Go.Proofs.YtkfkhafmgndgaaaRR.Pager
open Go.RowKit Go.Proofs.YtkfkhafmgndgaaaRRW.PrintWords Go.Proofs.YtkfkhafmgndgaaaRR.Common
set_option linter.unusedVariables false

theorem meth0 (a : Addr) (w : World) : (method 234 87 (.pointer (some a)) "Next").run Try.prog w = .ok (84, .pointer (some a)) w := by kernel_rfl
theorem meth1 (a : Addr) (w : World) : (method 234 87 (.pointer (some a)) "Prev").run Try.prog w = .ok (85, .pointer (some a)) w := by kernel_rfl
theorem meth2 (a : Addr) (w : World) : (method 234 87 (.pointer (some a)) "GoTo").run Try.prog w = .ok (82, .pointer (some a)) w := by kernel_rfl
theorem meth3 (a : Addr) (w : World) : (method 234 87 (.pointer (some a)) "Render").run Try.prog w = .ok (86, .pointer (some a)) w := by kernel_rfl
theorem meth4 (a : Addr) (w : World) : (method 234 87 (.pointer (some a)) "Location").run Try.prog w = .ok (83, .pointer (some a)) w := by kernel_rfl

/-- the world behind move's boxes -/
abbrev mvW (w : World) (kind p : Int) : World := (w.alloc (Obj.cells #[.int .i64 kind, .int .i64 p] 50)).alloc (Obj.cells #[.string ⟨#[]⟩, .int .i64 0] 52)
theorem PgIn.mv {w : World} {g n c k : Nat} {ad : Addr} {pages : List ByteArray} (H : PgIn w g n c k ad pages) (kind p : Int) : PgIn (mvW w kind p) g n c k ad pages := by
  have hg : g < w.heap.size := blk_lt H.hb
  have hbel : Below w.heap.size w (mvW w kind p) := ((Below.refl _ _).alloc (Nat.le_refl _) _).alloc (by simp) _
  exact ⟨H.hn, H.had, H.hk, (hbel.block g hg).trans H.hb, Kd.C_below H.hr hbel⟩
theorem mv_block {w w2 : World} {g : Nat} (hg : g < w.heap.size) (kind p : Int) (h : (mvW w kind p).grownBy w2 (some g)) : w2.heap[w.heap.size + 1]? = some (.cells #[.string ⟨#[]⟩, .int .i64 0] 52 (0, 0)) := by
  rw [h.block (w.heap.size + 1) (by simp) (fun e => by injection e with e; omega)]
  have := heap_alloc_new (w.alloc (Obj.cells #[Value.int IntKind.i64 kind, .int .i64 p] 50)) (Obj.cells #[.string ⟨#[]⟩, .int .i64 0] 52)
  rwa [World.size_alloc] at this
theorem mv_froz {w : World} {g : Nat} {cs : Array Value} {t : TypeId} (h : w.heap[g]? = some (.cells cs t (0, 0))) (j : Nat) : w.frozen? ⟨g, j, none⟩ = false := by simp [World.frozen?, h]
/-- what move leaves -/
def MvPost (w : World) (g n c k' : Nat) (ad : Addr) (t : ByteArray) (x : Int) (e : Ending) (w' : World) : Prop :=
  e = .returned (.agg #[.string t, .int .i64 x]) ∧ PgB w' g k' (some ad) n c ∧ w.grownBy w' (some g)
theorem mv_end {w w2 : World} {g n c k' : Nat} {ad : Addr} (hg : g < w.heap.size) (kind p : Int) (h : (mvW w kind p).grownBy w2 (some g)) (hb : PgB w2 g k' (some ad) n c) (t : ByteArray) (x : Int) :
    PgB ((w2.setCell ⟨w.heap.size + 1, 0, none⟩ (.string t)).setCell ⟨w.heap.size + 1, 1, none⟩ (.int .i64 x)) g k' (some ad) n c ∧ w.grownBy ((w2.setCell ⟨w.heap.size + 1, 0, none⟩ (.string t)).setCell ⟨w.heap.size + 1, 1, none⟩ (.int .i64 x)) (some g) ∧
    ((w2.setCell ⟨w.heap.size + 1, 0, none⟩ (.string t)).setCell ⟨w.heap.size + 1, 1, none⟩ (.int .i64 x)).heap[w.heap.size + 1]? = some (.cells #[.string t, .int .i64 x] 52 (0, 0)) := by
  have hblk := mv_block hg kind p h
  refine ⟨?_, ⟨h.os, h.tape, h.output, ?_, fun i hi hne => ?_⟩, ?_⟩
  · unfold PgB at hb ⊢
    rw [Below.heap_setCell _ _ _ _ (by show g ≠ w.heap.size + 1; omega), Below.heap_setCell _ _ _ _ (by show g ≠ w.heap.size + 1; omega)]
    exact hb
  · have := h.size
    simp at this ⊢
    omega
  · rw [Below.heap_setCell _ _ _ _ (by show i ≠ w.heap.size + 1; omega), Below.heap_setCell _ _ _ _ (by show i ≠ w.heap.size + 1; omega), h.block i (by simp; omega) hne]
    exact ((((Below.refl w.heap.size w).alloc (Nat.le_refl _) _).alloc (by simp) _).block i hi)
  · simp [World.setCell, Array.getElem?_modify, hblk]

set_option maxRecDepth 100000 in
set_option maxHeartbeats 1000000 in
theorem move0 {g n c k : Nat} {ad : Addr} {pages : List ByteArray} {w : World} (H : PgIn w g n c k ad pages) (p : Int) (hp : -9223372036854775808 ≤ p ∧ p ≤ 9223372036854775807) :
    Calls Try.prog 36 #[.iface 87 (.pointer (some ⟨g, 0, none⟩)), .agg #[.int .i64 0, .int .i64 p]] w fun e w' => MvPost w g n c (pgAt n k 0 0) ad (pg pages (pgAt n k 0 0)) (0) e w' := by
  have hg : g < w.heap.size := blk_lt H.hb
  have C := Aside0.mk (next_any (H.mv 0 p))
  have HG := Aside0.mk hg
  have M := fun w => meth0 ⟨g, 0, none⟩ w
  clear H hg
  go_enter Try.func36, Try.ntmps36
  go_wp2_with (go_at_call 84; refine C.out.mono ?_; rintro e w2 ⟨rfl, hb2, hg2⟩; have hblk := mv_block HG.out _ _ hg2; have hc0 := cell_of_row w2 (w.heap.size + 1) 0 _ 52 (0, 0) hblk; have hc1 := cell_of_row w2 (w.heap.size + 1) 1 _ 52 (0, 0) hblk; have hf0 := mv_froz hblk 0; have hf1 := mv_froz hblk 1; clear hblk; have HB2 := Aside0.mk hb2; have HG2 := Aside0.mk hg2; clear hb2 hg2)
  obtain ⟨r1, r2, r3⟩ := mv_end HG.out 0 p HG2.out HB2.out (pg pages (pgAt n k 0 0)) (0)
  refine bodyPost_ret (results_single (r := .cell 4 52) (v := .agg #[.string (pg pages (pgAt n k 0 0)), .int .i64 (0)]) rfl (.cell (w.heap.size + 1) 52 #[.string (pg pages (pgAt n k 0 0)), .int .i64 (0)] (0, 0) _ rfl r3 Try.underlying52 rfl (by kernel_rfl) .nil)) rfl ⟨rfl, r1, r2⟩
set_option maxRecDepth 100000 in
set_option maxHeartbeats 1000000 in
theorem move1 {g n c k : Nat} {ad : Addr} {pages : List ByteArray} {w : World} (H : PgIn w g n c k ad pages) (p : Int) (hp : -9223372036854775808 ≤ p ∧ p ≤ 9223372036854775807) :
    Calls Try.prog 36 #[.iface 87 (.pointer (some ⟨g, 0, none⟩)), .agg #[.int .i64 1, .int .i64 p]] w fun e w' => MvPost w g n c (pgAt n k 1 0) ad (pg pages (pgAt n k 1 0)) (0) e w' := by
  have hg : g < w.heap.size := blk_lt H.hb
  have C := Aside0.mk (prev_any (H.mv 1 p))
  have HG := Aside0.mk hg
  have M := fun w => meth1 ⟨g, 0, none⟩ w
  clear H hg
  go_enter Try.func36, Try.ntmps36
  go_wp2_with (go_at_call 85; refine C.out.mono ?_; rintro e w2 ⟨rfl, hb2, hg2⟩; have hblk := mv_block HG.out _ _ hg2; have hc0 := cell_of_row w2 (w.heap.size + 1) 0 _ 52 (0, 0) hblk; have hc1 := cell_of_row w2 (w.heap.size + 1) 1 _ 52 (0, 0) hblk; have hf0 := mv_froz hblk 0; have hf1 := mv_froz hblk 1; clear hblk; have HB2 := Aside0.mk hb2; have HG2 := Aside0.mk hg2; clear hb2 hg2)
  obtain ⟨r1, r2, r3⟩ := mv_end HG.out 1 p HG2.out HB2.out (pg pages (pgAt n k 1 0)) (0)
  refine bodyPost_ret (results_single (r := .cell 4 52) (v := .agg #[.string (pg pages (pgAt n k 1 0)), .int .i64 (0)]) rfl (.cell (w.heap.size + 1) 52 #[.string (pg pages (pgAt n k 1 0)), .int .i64 (0)] (0, 0) _ rfl r3 Try.underlying52 rfl (by kernel_rfl) .nil)) rfl ⟨rfl, r1, r2⟩
set_option maxRecDepth 100000 in
set_option maxHeartbeats 1000000 in
theorem move2 {g n c k : Nat} {ad : Addr} {pages : List ByteArray} {w : World} (H : PgIn w g n c k ad pages) (p : Int) (hp : -9223372036854775808 ≤ p ∧ p ≤ 9223372036854775807) :
    Calls Try.prog 36 #[.iface 87 (.pointer (some ⟨g, 0, none⟩)), .agg #[.int .i64 2, .int .i64 p]] w fun e w' => MvPost w g n c (pgAt n k 2 p) ad (pg pages (pgAt n k 2 p)) (0) e w' := by
  have hg : g < w.heap.size := blk_lt H.hb
  have C := Aside0.mk (goto_any (H.mv 2 p) p hp)
  have HG := Aside0.mk hg
  have M := fun w => meth2 ⟨g, 0, none⟩ w
  clear H hg
  go_enter Try.func36, Try.ntmps36
  go_wp2_with (go_at_call 82; refine C.out.mono ?_; rintro e w2 ⟨rfl, hb2, hg2⟩; have hblk := mv_block HG.out _ _ hg2; have hc0 := cell_of_row w2 (w.heap.size + 1) 0 _ 52 (0, 0) hblk; have hc1 := cell_of_row w2 (w.heap.size + 1) 1 _ 52 (0, 0) hblk; have hf0 := mv_froz hblk 0; have hf1 := mv_froz hblk 1; clear hblk; have HB2 := Aside0.mk hb2; have HG2 := Aside0.mk hg2; clear hb2 hg2)
  obtain ⟨r1, r2, r3⟩ := mv_end HG.out 2 p HG2.out HB2.out (pg pages (pgAt n k 2 p)) (0)
  refine bodyPost_ret (results_single (r := .cell 4 52) (v := .agg #[.string (pg pages (pgAt n k 2 p)), .int .i64 (0)]) rfl (.cell (w.heap.size + 1) 52 #[.string (pg pages (pgAt n k 2 p)), .int .i64 (0)] (0, 0) _ rfl r3 Try.underlying52 rfl (by kernel_rfl) .nil)) rfl ⟨rfl, r1, r2⟩
set_option maxRecDepth 100000 in
set_option maxHeartbeats 1000000 in
theorem move3 {g n c k : Nat} {ad : Addr} {pages : List ByteArray} {w : World} (H : PgIn w g n c k ad pages) (p : Int) (hp : -9223372036854775808 ≤ p ∧ p ≤ 9223372036854775807) :
    Calls Try.prog 36 #[.iface 87 (.pointer (some ⟨g, 0, none⟩)), .agg #[.int .i64 3, .int .i64 p]] w fun e w' => MvPost w g n c (k) ad (pg pages k) (0) e w' := by
  have hg : g < w.heap.size := blk_lt H.hb
  have C := Aside0.mk (render_any' (H.mv 3 p))
  have HG := Aside0.mk hg
  have M := fun w => meth3 ⟨g, 0, none⟩ w
  clear H hg
  go_enter Try.func36, Try.ntmps36
  go_wp2_with (go_at_call 86; refine C.out.mono ?_; rintro e w2 ⟨rfl, hb2, hg2⟩; have hblk := mv_block HG.out _ _ hg2; have hc0 := cell_of_row w2 (w.heap.size + 1) 0 _ 52 (0, 0) hblk; have hc1 := cell_of_row w2 (w.heap.size + 1) 1 _ 52 (0, 0) hblk; have hf0 := mv_froz hblk 0; have hf1 := mv_froz hblk 1; clear hblk; have HB2 := Aside0.mk hb2; have HG2 := Aside0.mk hg2; clear hb2 hg2)
  obtain ⟨r1, r2, r3⟩ := mv_end HG.out 3 p HG2.out HB2.out (pg pages k) (0)
  refine bodyPost_ret (results_single (r := .cell 4 52) (v := .agg #[.string (pg pages k), .int .i64 (0)]) rfl (.cell (w.heap.size + 1) 52 #[.string (pg pages k), .int .i64 (0)] (0, 0) _ rfl r3 Try.underlying52 rfl (by kernel_rfl) .nil)) rfl ⟨rfl, r1, r2⟩
set_option maxRecDepth 100000 in
set_option maxHeartbeats 1000000 in
theorem move4 {g n c k : Nat} {ad : Addr} {pages : List ByteArray} {w : World} (H : PgIn w g n c k ad pages) (p : Int) (hp : -9223372036854775808 ≤ p ∧ p ≤ 9223372036854775807) :
    Calls Try.prog 36 #[.iface 87 (.pointer (some ⟨g, 0, none⟩)), .agg #[.int .i64 4, .int .i64 p]] w fun e w' => MvPost w g n c (k) ad (⟨#[]⟩) ((k : Int) + 1) e w' := by
  have hg : g < w.heap.size := blk_lt H.hb
  have C := Aside0.mk (loc_any' (H.mv 4 p))
  have HG := Aside0.mk hg
  have M := fun w => meth4 ⟨g, 0, none⟩ w
  clear H hg
  go_enter Try.func36, Try.ntmps36
  go_wp2_with (go_at_call 83; refine C.out.mono ?_; rintro e w2 ⟨rfl, hb2, hg2⟩; have hblk := mv_block HG.out _ _ hg2; have hc0 := cell_of_row w2 (w.heap.size + 1) 0 _ 52 (0, 0) hblk; have hc1 := cell_of_row w2 (w.heap.size + 1) 1 _ 52 (0, 0) hblk; have hf0 := mv_froz hblk 0; have hf1 := mv_froz hblk 1; clear hblk; have HB2 := Aside0.mk hb2; have HG2 := Aside0.mk hg2; clear hb2 hg2)
  obtain ⟨r1, r2, r3⟩ := mv_end HG.out 4 p HG2.out HB2.out (⟨#[]⟩) ((k : Int) + 1)
  refine bodyPost_ret (results_single (r := .cell 4 52) (v := .agg #[.string (⟨#[]⟩), .int .i64 ((k : Int) + 1)]) rfl (.cell (w.heap.size + 1) 52 #[.string (⟨#[]⟩), .int .i64 ((k : Int) + 1)] (0, 0) _ rfl r3 Try.underlying52 rfl (by kernel_rfl) .nil)) rfl ⟨rfl, r1, r2⟩
end Go.Proofs.YtkfkhafmgndgaaaRR.Pager
