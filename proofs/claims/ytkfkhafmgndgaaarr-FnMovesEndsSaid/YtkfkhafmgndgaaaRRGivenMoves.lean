/-
  Proved: what impl.Moves returns: each move's page or number. Conditions: at least one page; moves of the kinds 0 to 4; sizes below the model's.
-/
import Derived.Test.YtkfkhafmgndgaaaRRPager3
import Derived.Test.YtkfkhafmgndgaaaRRGMx0
namespace Go.Proofs.YtkfkhafmgndgaaaRR.GivenMoves
open Go.RowKit Go.Proofs.YtkfkhafmgndgaaaRRW.PrintWords Go.Proofs.YtkfkhafmgndgaaaRR.Common Go.Proofs.YtkfkhafmgndgaaaRR.Pager Go.Proofs.YtkfkhafmgndgaaaRR.GM
set_option linter.unusedVariables false

def mvPage (pages : List ByteArray) (k : Nat) (m : S50) : S52 := if m.f0 = 4 then ⟨⟨#[]⟩, (k : Int) + 1⟩ else ⟨pg pages (pgAt pages.length k m.f0 m.f1), 0⟩
def mvAll (pages : List ByteArray) : List S50 → Nat → List S52
  | [], _ => []
  | m :: l, k => mvPage pages k m :: mvAll pages l (pgAt pages.length k m.f0 m.f1)
def mvOk (m : S50) : Prop := 0 ≤ m.f0 ∧ m.f0 ≤ 4 ∧ -9223372036854775808 ≤ m.f1 ∧ m.f1 ≤ 9223372036854775807
instance (m : S50) : Decidable (mvOk m) := by unfold mvOk; exact inferInstance
def impl_Moves.f (pages : List ByteArray) (l : List S50) : Option (List S52) :=
  if 0 < pages.length ∧ pages.length ≤ 9223372036854775806 ∧ l.length ≤ 1000000000000 ∧ ∀ m ∈ l, mvOk m then some (mvAll pages l 0) else none

theorem new_any (A : Option Addr) (n c : Nat) (w : World) : Calls Try.prog 35 #[.slice A n c] w fun e w' => e = .returned (.iface 87 (.pointer (some ⟨w.heap.size, 0, none⟩))) ∧ w' = w.alloc (.cells #[.int .i64 0, .slice A n c, .int .i64 0] 89) := by
  go_enter Try.func35, Try.ntmps35
  go_wp2
  go_ret
  exact ⟨rfl, rfl⟩

theorem move_any {g n c k : Nat} {ad : Addr} {pages : List ByteArray} {w : World} (hl : pages.length = n) (H : PgIn w g n c k ad pages) (m : S50) (hm : mvOk m) :
    Calls Try.prog 36 #[.iface 87 (.pointer (some ⟨g, 0, none⟩)), .agg #[.int .i64 m.f0, .int .i64 m.f1]] w fun e w' => MvPost w g n c (pgAt n k m.f0 m.f1) ad (mvPage pages k m).f0 (mvPage pages k m).f1 e w' := by
  obtain ⟨h0, h1, h2⟩ := hm
  subst hl
  obtain ⟨x, p⟩ := m
  simp only at h0 h1 h2 ⊢
  rcases (show x = 0 ∨ x = 1 ∨ x = 2 ∨ x = 3 ∨ x = 4 by omega) with rfl | rfl | rfl | rfl | rfl
  · exact move0 H p h2
  · exact move1 H p h2
  · exact move2 H p h2
  · exact move3 H p h2
  · exact move4 H p h2

theorem R_only {α : Type} {d : Kd α} {e g t base : Nat} {w w1 : World} {v : Value} {xs : List α} {cs : Array Value} (h : d.R e w base (fun _ => True) v xs) (hg : w.grownBy w1 (some g)) (hb : w.heap[g]? = some (.cells cs t (0, 0))) (ht : ∀ q, q ∈ e :: d.E → q ≠ t) :
    d.R e w1 base (fun _ => True) v xs :=
  Kd.R_mono (Kd.R_move (Kd.R_bound h) (fun k hk => hg.block k hk.2.2.1 (fun he => by
    injection he with he
    subst he
    obtain ⟨q, hq, cells, hc⟩ := hk.2.2.2
    rw [hb] at hc
    injection hc with hc
    injection hc with _ hc
    exact ht q hq hc.symm))) (fun _ _ => trivial)
theorem own_ne {α : Type} {d : Kd α} {e g t base : Nat} {w : World} {v : Value} {xs : List α} {cs : Array Value} (h : d.R e w base (fun _ => True) v xs) (hb : w.heap[g]? = some (.cells cs t (0, 0))) (ht : e ≠ t) : some g ≠ v.ownBlock := by
  intro he
  obtain ⟨_, inner, ho, _⟩ := h
  obtain ⟨cells, hc⟩ := own_typed ho g he.symm
  rw [hb] at hc
  injection hc with hc
  injection hc with _ hc
  exact ht hc.symm

theorem pg_alloc {w : World} {g n c k : Nat} {ad : Addr} {pages : List ByteArray} (H : PgIn w g n c k ad pages) (o : Obj) : PgIn (w.alloc o) g n c k ad pages := by
  have hg : g < w.heap.size := blk_lt H.hb
  have hbel : Below w.heap.size w (w.alloc o) := (Below.refl _ _).alloc (Nat.le_refl _) _
  exact ⟨H.hn, H.had, H.hk, (hbel.block g hg).trans H.hb, Kd.C_below H.hr hbel⟩
theorem pg_move {w wr w2 : World} {g n c k k' : Nat} {ad : Addr} {pages : List ByteArray} (hg : w.heap.size ≤ g) (H : PgIn wr g n c k ad pages) (hk' : k' < n) (hb2 : PgB w2 g k' (some ad) n c) (hbel : Below w.heap.size w w2) (hr : Kd.C Kd.string w (some ad) n pages) : PgIn w2 g n c k' ad pages :=
  ⟨H.hn, H.had, hk', hb2, Kd.C_below hr hbel⟩
set_option maxRecDepth 100000 in
set_option maxHeartbeats 4000000 in
theorem impl_Moves.calls (A0 : Option Addr) (c0 : Nat) (l0 : List ByteArray) (A1 : Option Addr) (c1 : Nat) (l1 : List S50) (r : List S52) (w : World) (hr0 : Kd.C Kd.string w A0 l0.length l0) (hc0 : l0.length ≤ c0) (hr1 : Kd.C k50 w A1 l1.length l1) (hc1 : l1.length ≤ c1) (h : impl_Moves.f l0 l1 = some r) :
    Calls Try.prog 17 #[.slice A0 l0.length c0, .slice A1 l1.length c1] w fun e w' => ∃ v0_ : Value, e = .returned v0_ ∧ Kd.R k52 52 w' w.heap.size (fun _ => True) v0_ r ∧ Below w.heap.size w w' := by
  unfold impl_Moves.f at h
  split at h
  · rename_i hcond
    obtain ⟨hp, hq, hll, hin⟩ := hcond
    have H := Aside0.mk (Option.some.inj h)
    obtain ⟨ad, rfl, _⟩ := Kd.at_string hr0 0 (by omega) (by omega)
    have HIN := Aside0.mk hin
    have R0 := Aside0.mk hr0
    have R1 := Aside0.mk hr1
    have hab : ad.block < w.heap.size := by
      obtain ⟨ad', e, hx⟩ := Kd.at_string hr0 0 (by omega) (by omega)
      cases e
      rw [show Int.toNat 0 = 0 from rfl, add_zero'] at hx
      exact World.block_lt_of_cell? w _ hx
    have HAB := Aside0.mk hab
    clear h hin hr0 hr1 hab
    have hlen : l1.length ≤ 9223372036854775807 := by omega
    go_enter Try.func17, Try.ntmps17
    go_wp2_with (go_at_call 35; refine (new_any _ _ _ _).mono ?_; rintro e w1 ⟨rfl, rfl⟩)
    have hpg : PgIn ((w.alloc (Obj.cells #[Value.int IntKind.i64 0, Value.slice (some ad) l0.length c0, Value.int IntKind.i64 0] 89)).alloc (Obj.cells #[] 52)) w.heap.size l0.length c0 0 ad l0 := by
      refine ⟨hq, by have := HAB.out; omega, hp, ?_, Kd.C_below R0.out (((Below.refl _ _).alloc (Nat.le_refl _) _).alloc (by simp) _)⟩
      exact (Below.heap_alloc _ _ _ (by simp)).trans (heap_alloc_new w _)
    have hR : Kd.R k52 52 ((w.alloc (Obj.cells #[Value.int IntKind.i64 0, Value.slice (some ad) l0.length c0, Value.int IntKind.i64 0] 89)).alloc (Obj.cells #[] 52)) w.heap.size (fun _ => True) (.slice (some ⟨w.heap.size + 1, 0, none⟩) 0 0) [] := by
      have h := World.ownsRow_lit (base := w.heap.size) (e := 52) (size := 2) (w.alloc (Obj.cells #[Value.int IntKind.i64 0, Value.slice (some ad) l0.length c0, Value.int IntKind.i64 0] 89)) #[] 0 (by simp) (by decide) (by simp)
      simp only [World.size_alloc] at h
      exact ⟨fun _ _ => trivial, [], h, Reps.none _ _⟩
    have HPG := Aside0.mk hpg
    have HR := Aside0.mk hR
    have HB := Aside0.mk (((Below.refl w.heap.size w).alloc (Nat.le_refl _) (Obj.cells #[Value.int IntKind.i64 0, Value.slice (some ad) l0.length c0, Value.int IntKind.i64 0] 89)).alloc (by simp) (Obj.cells #[] 52))
    clear hpg hR
    go_loopw [6, 14] (fun v i wr => ∃ k : Nat, k ≤ l1.length ∧ i = .int .i64 k ∧ ∃ (at_ : Nat) (out : List S52), Aside0 (out ++ mvAll l0 (l1.drop k) at_ = r) ∧ Aside0 (out.length = k) ∧ Aside0 (PgIn wr w.heap.size l0.length c0 at_ ad l0) ∧ Aside0 (Kd.R k52 52 wr w.heap.size (fun _ => True) v out) ∧ Aside0 (Below w.heap.size w wr)) (fun _ i _ => l1.length - (intOf i).toNat)
    case atStart => exact ⟨0, Nat.zero_le _, rfl, 0, [], ⟨by simpa using H.out⟩, ⟨rfl⟩, HPG, HR, HB⟩
    case round =>
      obtain ⟨k, hk, rfl, at_, out, HF, HL, HP2, HR2, HB2⟩ := hrel
      clear H HPG HR HB
      by_cases hlt : k < l1.length
      · obtain ⟨ad1, rfl, hx1, hx2⟩ := at_T50 (Kd.C_below R1.out HB2.out) (k : Int) (by omega) (by omega)
        have hm : rd_T50 l1 (k : Int) = l1[k] := by unfold rd_T50; simp [List.getElem?_eq_getElem hlt]
        rw [hm, Int.toNat_natCast] at hx1 hx2
        have hok := HIN.out _ (List.getElem_mem hlt)
        have HF2 : Aside0 ((out ++ [mvPage l0 at_ l1[k]]) ++ mvAll l0 (l1.drop (k + 1)) (pgAt l0.length at_ l1[k].f0 l1[k].f1) = r) := by
          have h := HF.out
          rw [List.drop_eq_getElem_cons hlt, mvAll, List.append_cons] at h
          exact ⟨h⟩
        obtain ⟨m, hM⟩ : ∃ m, m = l1[k] := ⟨_, rfl⟩
        rw [← hM] at hx1 hx2 hok HF2
        clear hM hm HF
        have HOK := Aside0.mk hok
        clear hok
        have C := Aside0.mk (move_any rfl (pg_alloc HP2.out (Obj.cells #[Value.int IntKind.i64 m.f0, Value.int IntKind.i64 m.f1] 50)) m HOK.out)
        have HK2 := Aside0.mk (pgAt_lt l0.length at_ HP2.out.hk m.f0 m.f1)
        have HLT := Aside0.mk hlt
        have HLL := Aside0.mk hll
        go_wp2_with (first
          | (go_at_call 36; refine C.out.mono ?_; rintro e w2 ⟨rfl, hb2, hg2⟩
             have HB4 := Aside0.mk hb2
             have HG4 := Aside0.mk hg2
             have HB5 : Aside0 (Below w.heap.size w w2) := ⟨((HB2.out.alloc HB2.out.size _).grown hg2 (by have := HB2.out.size; simp; omega) (fun k e => by injection e with e; omega))⟩
             have HR4 : Aside0 (Kd.R k52 52 w2 w.heap.size (fun _ => True) u6 out) := ⟨R_only (Kd.R_alloc HR2.out _) hg2 ((pg_alloc HP2.out _).hb) (by decide)⟩
             clear hb2 hg2)
          | (at_builtin
             refine Kd.R_append k52 (w0 := w) w.heap.size rfl (.tmp 18) (.tmp 22) 46 52 (.agg #[(.string ⟨#[]⟩), (.int .i64 0)]) 24 rfl Try.underlying46 info52 rfl (by decide) (by omega) u6 out (mvPage l0 at_ m) [.string (mvPage l0 at_ m).f0, .int .i64 (mvPage l0 at_ m).f1] (fun _ => True) (fun _ => False) rfl rfl (k52_mkM _ _ _ (mvPage l0 at_ m)) (fun _ hk => hk.elim) (fun _ _ => trivial) HR4.out HB5.out HB5.out.size (by have := HL.out; have := HLT.out; have := HLL.out; omega) ?_
             intro v1 w3 ho hb3 hg3 hat
             have HR6 := Aside0.mk ho
             have HB6 := Aside0.mk hb3
             have HP6 : Aside0 (PgIn w3 w.heap.size l0.length c0 (pgAt l0.length at_ m.f0 m.f1) ad l0) := ⟨pg_move (Nat.le_refl _) HP2.out HK2.out ((hg3.block w.heap.size (blk_lt HB4.out) (own_ne HR4.out HB4.out (by decide))).trans HB4.out) hb3 R0.out⟩
             clear ho hb3 hg3 hat))
        go_roundw
        case rel => exact ⟨k + 1, by have := HLT.out; omega, by go_num, _, out ++ [mvPage l0 at_ m], HF2, ⟨by rw [List.length_append, HL.out]; rfl⟩, HP6, HR6, HB6⟩
        case measure => have := HLT.out; simp [intOf]; omega
      · obtain rfl : k = l1.length := by omega
        have HF2 : Aside0 (out = r) := ⟨by
          have h := HF.out
          rw [List.drop_eq_nil_of_le (Nat.le_refl _), mvAll, List.append_nil] at h
          exact h⟩
        clear HF
        go_wp2_with fail
        go_ret
        exact ⟨_, rfl, HF2.out ▸ HR2.out, HB2.out⟩
  · cases h
end Go.Proofs.YtkfkhafmgndgaaaRR.GivenMoves
