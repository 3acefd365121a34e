/-
  Proved: what impl.TwSlicer returns. Conditions: kinds of calls from 0 to 5, at most 200 calls, rows of at most 2^31 numbers, at most 2000 elements behind each call.
-/
import Derived.Test.YtapbnbinoakbhaaSlcV
import Derived.Test.YtapbnbinoakbhaaSlcE
import Derived.Test.YtapbnbinoakbhaaGESx0
namespace Go.Proofs.Ytapbnbinoakbhaa.SlcT
open Go.RowKit Go.Proofs.YtapbnbinoakbhaaW.PrintWords Go.Proofs.Ytapbnbinoakbhaa.Common Go.Proofs.Ytapbnbinoakbhaa.SlcQ Go.Proofs.Ytapbnbinoakbhaa.SlcF Go.Proofs.Ytapbnbinoakbhaa.SlcA Go.Proofs.Ytapbnbinoakbhaa.SlcM Go.Proofs.Ytapbnbinoakbhaa.SlcS Go.Proofs.Ytapbnbinoakbhaa.SlcV Go.Proofs.Ytapbnbinoakbhaa.SlcE Go.Proofs.Ytapbnbinoakbhaa.GES
set_option linter.unusedVariables false
set_option linter.unusedSimpArgs false
set_option maxRecDepth 1000000

def foldS (l : List S53) : List Int := l.foldl (fun s o => sl s o.f0 o.f1 o.f2) []
theorem foldS_step (l : List S53) (m : Nat) (h : m < l.length) : foldS (l.take (m + 1)) = sl (foldS (l.take m)) l[m].f0 l[m].f1 l[m].f2 := by
  unfold foldS
  rw [List.take_succ_eq_append_getElem h, List.foldl_append]
  rfl
theorem rd53 (l : List S53) (m : Nat) (h : m < l.length) : rd_T53 l (m : Int) = l[m] := by
  unfold rd_T53
  simp [List.getElem?_eq_getElem h]
structure Ok (l : List S53) : Prop where
  len : l.length ≤ 200
  kind : ∀ o ∈ l, o.f0 = 0 ∨ o.f0 = 1 ∨ o.f0 = 2 ∨ o.f0 = 3 ∨ o.f0 = 4 ∨ o.f0 = 5
  vals : ∀ o ∈ l, o.f2.length ≤ 2147483647
  few : ∀ m, m ≤ l.length → (foldS (l.take m)).length ≤ 2000
theorem own_set {W : World} {base : Nat} {v : Value} {xs : List Int} (h : Own W base v xs) (p : Addr) (hp : v.ownBlock ≠ some p.block) (u : Value) : Own (W.setCell p u) base v xs := by
  refine own_move h (fun k hk => ?_)
  have : p.block ≠ k := fun e => hp (by rw [hk, e])
  simp [World.setCell, Array.getElem?_modify, this]
theorem facts_set (v u : Value) (xs : List Int) (i least : Int) : (factsV u xs i least).setIfInBounds 0 v = factsV v xs i least := by
  simp [factsV]
theorem froz_of {w : World} {g : Nat} {cs : Array Value} {t : TypeId} (h : w.heap[g]? = some (.cells cs t (0, 0))) (j : Nat) : w.frozen? ⟨g, j, none⟩ = false := by simp [World.frozen?, h]
theorem base_two (w : World) (L Z : Array Value) : ((w.alloc (.cells L 3)).alloc (.cells Z 56)).heap.size = w.heap.size + 2 ∧ ((w.alloc (.cells L 3)).alloc (.cells Z 56)).heap[w.heap.size]? = some (.cells L 3 (0, 0)) ∧ ((w.alloc (.cells L 3)).alloc (.cells Z 56)).heap[w.heap.size + 1]? = some (.cells Z 56 (0, 0)) ∧ Below w.heap.size w ((w.alloc (.cells L 3)).alloc (.cells Z 56)) := by
  have h2 := heap_alloc_new (w.alloc (.cells L 3)) (.cells Z 56)
  rw [World.size_alloc] at h2
  refine ⟨by rw [World.size_alloc, World.size_alloc], ?_, h2, below_alloc (below_alloc (Below.refl _ _) _) _⟩
  have h3 := ((Below.refl (w.alloc (.cells L 3)).heap.size (w.alloc (.cells L 3))).alloc (Nat.le_refl _) (.cells Z 56)).block w.heap.size (by rw [World.size_alloc]; omega)
  rw [h3]
  exact heap_alloc_new w _
set_option maxHeartbeats 8000000 in
theorem slicer_made (A : Option Addr) (c : Nat) (l : List S53) (i least : Int) (w : World) (hr : Kd.C k53 w A l.length l) (hc : l.length ≤ c) (ok : Ok l) :
    Calls Try.prog 21 #[.bool false, .slice A l.length c, .int .i64 i, .int .i64 least] w fun e w' => ∃ v, e = .returned (.agg (factsV v (foldS l) i least)) ∧ Own w' w.heap.size v (foldS l) ∧ Below w.heap.size w w' := by
  have HR := Aside0.mk hr
  have HOK := Aside0.mk ok
  have hl := ok.len
  have hu53 := Try.underlying53
  obtain ⟨xs, hxs⟩ : ∃ xs, xs = foldS l := ⟨_, rfl⟩
  rw [← hxs]
  have HXS := Aside0.mk hxs
  have hxl : xs.length ≤ 2000 := by rw [hxs]; have := ok.few l.length (Nat.le_refl _); rwa [List.take_of_length_le (Nat.le_refl _)] at this
  clear hr ok hxs
  obtain ⟨W0, hW0⟩ : ∃ W0, W0 = (w.alloc (.cells #[.int .i64 least] 3)).alloc (.cells #[.slice none 0 0, .int .i64 0, .bool false, .int .i64 0, .int .i64 0, .int .i64 0, .int .i64 0, .int .i64 0, .bool false, .bool false, .bool false, .bool false] 56) := ⟨_, rfl⟩
  have HBT := Aside0.mk (base_two w #[.int .i64 least] #[.slice none 0 0, .int .i64 0, .bool false, .int .i64 0, .int .i64 0, .int .i64 0, .int .i64 0, .int .i64 0, .bool false, .bool false, .bool false, .bool false])
  rw [← hW0] at HBT
  have HW0 := Aside0.mk hW0
  clear hW0
  go_enter Try.func21, Try.ntmps21
  go_wp2_with fail
  rw [← HW0.out]
  go_wp2_with (go_at_call 42; refine (new_c _).mono ?_; rintro e w1 ⟨v0, rfl, ho, hb⟩; have HN := Aside0.mk (And.intro ho hb); clear ho hb)
  have HST : Aside0 (Own w1 W0.heap.size v0 (foldS (l.take 0)) ∧ Below W0.heap.size W0 w1) := ⟨HN.out.1, HN.out.2⟩
  clear HN
  go_loopw [17, 9] (fun q v wr => ∃ (m : Nat) (u : Value), Value.int .i64 (m : Int) = q ∧ u = v ∧ m ≤ l.length ∧ Aside0 (Own wr W0.heap.size u (foldS (l.take m)) ∧ Below W0.heap.size W0 wr)) (fun q _ _ => l.length - (intOf q).toNat)
  case atStart => exact ⟨0, _, rfl, rfl, by omega, HST⟩
  case round =>
    obtain ⟨m, u, rfl, rfl, hml, HS⟩ := hrel
    clear HST
    by_cases hlt : m < l.length
    · have hbw : Below w.heap.size w wr := HBT.out.2.2.2.trans (HS.out.2.mono HBT.out.2.2.2.size)
      obtain ⟨ad, A2, c2, e, hx0, hx1, hx2, hvc, hvi⟩ := at_T53 (Kd.C_below HR.out hbw) (m : Int) (by omega) (by omega)
      cases e
      rw [rd53 l m hlt] at hx0 hx1 hx2 hvc hvi
      simp only [Int.toNat_natCast] at hx0 hx1 hx2
      obtain ⟨o, ho⟩ : ∃ o, o = l[m] := ⟨_, rfl⟩
      rw [← ho] at hx0 hx1 hx2 hvc hvi
      have hom : o ∈ l := by rw [ho]; exact List.getElem_mem _
      have hfew := HOK.out.few m hml
      have C := Aside0.mk (fun X => sliced_c W0.heap.size W0 (wr.alloc X) u (foldS (l.take m)) o.f0 o.f1 A2 c2 o.f2 (pw_own_below HS.out.1 (below_alloc (Below.refl _ _) _)) (HS.out.2.alloc HS.out.2.size _) (Nat.le_trans HS.out.2.size (by rw [World.size_alloc]; omega)) (Kd.C_alloc hvi _) hvc (by omega) (by have := HOK.out.vals o hom; omega) (HOK.out.kind o hom))
      have HSTEP := foldS_step l m hlt
      rw [← ho] at HSTEP
      rw [← HSTEP] at C
      have hvl : o.f2.length ≤ 2147483647 := HOK.out.vals o hom
      obtain ⟨d, hd⟩ : ∃ d, d = o.f0 := ⟨_, rfl⟩
      obtain ⟨n, hn⟩ : ∃ n, n = o.f1 := ⟨_, rfl⟩
      obtain ⟨vs, hvs⟩ : ∃ vs, vs = o.f2 := ⟨_, rfl⟩
      rw [← hd] at hx0 C
      rw [← hn] at hx1 C
      rw [← hvs] at hx2 hvc hvi C hvl
      clear HSTEP ho hom hfew HS hbw hd hn hvs hvi
      go_wp2_with (go_at_call 43; refine (C.out _).mono ?_; rintro e w2 ⟨v1, rfl, ho, hb⟩; have HS2 := Aside0.mk (And.intro ho hb); clear ho hb)
      go_roundw
      case rel => exact ⟨m + 1, _, by go_num, rfl, by omega, HS2⟩
      case measure => simp [intOf]; omega
    · obtain rfl : m = l.length := by omega
      have HS2 := HS
      rw [List.take_of_length_le (Nat.le_refl _), ← HXS.out] at HS2
      obtain ⟨A', c', rfl, hc', hci⟩ := HS2.out.1.slice
      have hblL : wr.cell? ⟨w.heap.size, 0, none⟩ = some (.int .i64 least) := (cell_of_row _ _ _ _ _ _ ((HS2.out.2.block _ (by rw [HBT.out.1]; omega)).trans HBT.out.2.1)).trans rfl
      have L44 := Aside0.mk (len_c A' c' xs wr hci hc' (by omega))
      have L45 := Aside0.mk (empty_c A' c' xs wr hci hc' (by omega))
      have L46 := Aside0.mk (first_c A' c' xs wr hci hc' (by omega))
      have L47 := Aside0.mk (last_c A' c' xs wr hci hc' (by omega))
      have L48 := Aside0.mk (get_c A' c' xs i wr hci hc' (by omega))
      have L49 := Aside0.mk (has_c A' c' xs i wr hci hc' (by omega))
      have L50 := Aside0.mk (contains_c A' c' w.heap.size least xs wr hci hc' (by omega) hblL)
      have L52 := fun X => Aside0.mk (getok_c A' c' xs i (wr.alloc X) (Kd.C_alloc hci X) hc' (by omega))
      have L53 := fun X => Aside0.mk (find_c A' c' w.heap.size least xs (wr.alloc X) (Kd.C_alloc hci X) hc' (by omega) ((below_alloc (Below.refl wr.heap.size wr) X).cell (World.block_lt_of_cell? wr _ hblL) |>.trans hblL))
      have L55 := Aside0.mk (each_c A' c' xs wr.heap.size W0.heap.size W0 (wr.alloc (.cells (factsV (.slice none 0 0) xs i least) 56)) (factsV (.slice none 0 0) xs i least) (by simp [factsV]) rfl (pw_own_below HS2.out.1 (below_alloc (Below.refl _ _) _)) (heap_alloc_new wr _) (HS2.out.2.alloc HS2.out.2.size _) (Nat.le_trans HS2.out.2.size (by rw [World.size_alloc]; omega)) HS2.out.2.size (by omega))
      have HFS := Aside0.mk (fun v => facts_set v (.slice none 0 0) xs i least)
      have HFE : Aside0 (∀ v : Value, factsV v xs i least = #[v, .int .i64 xs.length, .bool ((xs.length : Int) == 0), .int .i64 (getv xs 0), .int .i64 (getv xs ((xs.length : Int) - 1)), .int .i64 (getv xs i), .int .i64 (getv xs i), .int .i64 ((firstGe least xs).getD 0), .bool (hasv xs i), .bool (hasv xs i), .bool (firstGe least xs).isSome, .bool (firstGe least xs).isSome]) := ⟨fun v => rfl⟩
      rw [HFE.out] at L55
      have HFS2 : Aside0 (∀ v : Value, (#[.slice none 0 0, .int .i64 xs.length, .bool ((xs.length : Int) == 0), .int .i64 (getv xs 0), .int .i64 (getv xs ((xs.length : Int) - 1)), .int .i64 (getv xs i), .int .i64 (getv xs i), .int .i64 ((firstGe least xs).getD 0), .bool (hasv xs i), .bool (hasv xs i), .bool (firstGe least xs).isSome, .bool (firstGe least xs).isSome] : Array Value).setIfInBounds 0 v = #[v, .int .i64 xs.length, .bool ((xs.length : Int) == 0), .int .i64 (getv xs 0), .int .i64 (getv xs ((xs.length : Int) - 1)), .int .i64 (getv xs i), .int .i64 (getv xs i), .int .i64 ((firstGe least xs).getD 0), .bool (hasv xs i), .bool (hasv xs i), .bool (firstGe least xs).isSome, .bool (firstGe least xs).isSome]) := ⟨fun v => by have := HFS.out v; rwa [HFE.out, HFE.out] at this⟩
      obtain ⟨be, hbe⟩ : ∃ be, be = ((xs.length : Int) == 0) := ⟨_, rfl⟩
      obtain ⟨a0, ha0⟩ : ∃ a0, a0 = getv xs 0 := ⟨_, rfl⟩
      obtain ⟨al, hal⟩ : ∃ al, al = getv xs ((xs.length : Int) - 1) := ⟨_, rfl⟩
      obtain ⟨ai, hai⟩ : ∃ ai, ai = getv xs i := ⟨_, rfl⟩
      obtain ⟨bi, hbi⟩ : ∃ bi, bi = hasv xs i := ⟨_, rfl⟩
      obtain ⟨bs, hbs⟩ : ∃ bs, bs = (firstGe least xs).isSome := ⟨_, rfl⟩
      obtain ⟨af, haf⟩ : ∃ af, af = (firstGe least xs).getD 0 := ⟨_, rfl⟩
      rw [← hbe] at L45 L55 HFS2 HFE
      rw [← ha0] at L46 L55 HFS2 HFE
      rw [← hal] at L47 L55 HFS2 HFE
      rw [← hai] at L48 L52 L55 HFS2 HFE
      rw [← hbi] at L49 L52 L55 HFS2 HFE
      rw [← hbs] at L50 L53 L55 HFS2 HFE
      rw [← haf] at L53 L55 HFS2 HFE
      have HWL := Aside0.mk (show W0.heap.size = w.heap.size + 2 from HBT.out.1)
      have HSW := Aside0.mk HS2.out.2.size
      clear HS HFS hbe ha0 hal hai hbi hbs haf hblL hci
      go_wp2_with (first
        | (go_at_call 44; with_reducible refine L44.out.mono ?_; rintro e w1 ⟨rfl, hw⟩; replace hw := hw.symm; subst hw)
        | (go_at_call 45; with_reducible refine L45.out.mono ?_; rintro e w1 ⟨rfl, hw⟩; replace hw := hw.symm; subst hw)
        | (go_at_call 46; with_reducible refine L46.out.mono ?_; rintro e w1 ⟨rfl, hw⟩; replace hw := hw.symm; subst hw)
        | (go_at_call 47; with_reducible refine L47.out.mono ?_; rintro e w1 ⟨rfl, hw⟩; replace hw := hw.symm; subst hw)
        | (go_at_call 48; with_reducible refine L48.out.mono ?_; rintro e w1 ⟨rfl, hw⟩; replace hw := hw.symm; subst hw)
        | (go_at_call 49; with_reducible refine L49.out.mono ?_; rintro e w1 ⟨rfl, hw⟩; replace hw := hw.symm; subst hw)
        | (go_at_call 50; with_reducible refine L50.out.mono ?_; rintro e w1 ⟨rfl, hw⟩; replace hw := hw.symm; subst hw)
        | (go_at_call 52; with_reducible refine (L52 _).out.mono ?_; rintro e w1 ⟨rfl, hw⟩; replace hw := hw.symm; subst hw)
        | (go_at_call 53; with_reducible refine (L53 _).out.mono ?_; rintro e w1 ⟨rfl, hw⟩; replace hw := hw.symm; subst hw)
        | (go_at_call 55; with_reducible refine L55.out.mono ?_; rintro e w6 ⟨rfl, v6, hfb, hb6⟩; obtain ⟨A6, c6, rfl, -, -⟩ := hfb.row.slice; have hblk6 := hfb.blk; rw [HFS2.out] at hblk6; have hz6 := (hb6.block (w.heap.size + 1) (by rw [HWL.out]; omega)).trans HBT.out.2.2.1; have q0 := (cell_of_row w6 wr.heap.size 0 _ _ _ hblk6).trans rfl; have q1 := (cell_of_row w6 wr.heap.size 1 _ _ _ hblk6).trans rfl; have q2 := (cell_of_row w6 wr.heap.size 2 _ _ _ hblk6).trans rfl; have q3 := (cell_of_row w6 wr.heap.size 3 _ _ _ hblk6).trans rfl; have q4 := (cell_of_row w6 wr.heap.size 4 _ _ _ hblk6).trans rfl; have q5 := (cell_of_row w6 wr.heap.size 5 _ _ _ hblk6).trans rfl; have q6 := (cell_of_row w6 wr.heap.size 6 _ _ _ hblk6).trans rfl; have q7 := (cell_of_row w6 wr.heap.size 7 _ _ _ hblk6).trans rfl; have q8 := (cell_of_row w6 wr.heap.size 8 _ _ _ hblk6).trans rfl; have q9 := (cell_of_row w6 wr.heap.size 9 _ _ _ hblk6).trans rfl; have q10 := (cell_of_row w6 wr.heap.size 10 _ _ _ hblk6).trans rfl; have q11 := (cell_of_row w6 wr.heap.size 11 _ _ _ hblk6).trans rfl; have z0 := (cell_of_row w6 (w.heap.size + 1) 0 _ _ _ hz6).trans rfl; have z1 := (cell_of_row w6 (w.heap.size + 1) 1 _ _ _ hz6).trans rfl; have z2 := (cell_of_row w6 (w.heap.size + 1) 2 _ _ _ hz6).trans rfl; have z3 := (cell_of_row w6 (w.heap.size + 1) 3 _ _ _ hz6).trans rfl; have z4 := (cell_of_row w6 (w.heap.size + 1) 4 _ _ _ hz6).trans rfl; have z5 := (cell_of_row w6 (w.heap.size + 1) 5 _ _ _ hz6).trans rfl; have z6 := (cell_of_row w6 (w.heap.size + 1) 6 _ _ _ hz6).trans rfl; have z7 := (cell_of_row w6 (w.heap.size + 1) 7 _ _ _ hz6).trans rfl; have z8 := (cell_of_row w6 (w.heap.size + 1) 8 _ _ _ hz6).trans rfl; have z9 := (cell_of_row w6 (w.heap.size + 1) 9 _ _ _ hz6).trans rfl; have z10 := (cell_of_row w6 (w.heap.size + 1) 10 _ _ _ hz6).trans rfl; have z11 := (cell_of_row w6 (w.heap.size + 1) 11 _ _ _ hz6).trans rfl; have f0 := froz_of hz6 0; have f1 := froz_of hz6 1; have f2 := froz_of hz6 2; have f3 := froz_of hz6 3; have f4 := froz_of hz6 4; have f5 := froz_of hz6 5; have f6 := froz_of hz6 6; have f7 := froz_of hz6 7; have f8 := froz_of hz6 8; have f9 := froz_of hz6 9; have f10 := froz_of hz6 10; have f11 := froz_of hz6 11; have HB6 := Aside0.mk hb6; have HR6 := Aside0.mk hfb.row; have HBK6 := Aside0.mk hblk6; have HZ6 := Aside0.mk hz6; clear hfb hb6 hblk6 hz6))
      have hfin : ((((((((((((w6.setCell ⟨w.heap.size + 1, 0, none⟩ (.slice A6 xs.length c6)).setCell ⟨w.heap.size + 1, 1, none⟩ (.int .i64 xs.length)).setCell ⟨w.heap.size + 1, 2, none⟩ (.bool be)).setCell ⟨w.heap.size + 1, 3, none⟩ (.int .i64 a0)).setCell ⟨w.heap.size + 1, 4, none⟩ (.int .i64 al)).setCell ⟨w.heap.size + 1, 5, none⟩ (.int .i64 ai)).setCell ⟨w.heap.size + 1, 6, none⟩ (.int .i64 ai)).setCell ⟨w.heap.size + 1, 7, none⟩ (.int .i64 af)).setCell ⟨w.heap.size + 1, 8, none⟩ (.bool bi)).setCell ⟨w.heap.size + 1, 9, none⟩ (.bool bi)).setCell ⟨w.heap.size + 1, 10, none⟩ (.bool bs)).setCell ⟨w.heap.size + 1, 11, none⟩ (.bool bs)).heap[w.heap.size + 1]? = some (.cells #[.slice A6 xs.length c6, .int .i64 xs.length, .bool be, .int .i64 a0, .int .i64 al, .int .i64 ai, .int .i64 ai, .int .i64 af, .bool bi, .bool bi, .bool bs, .bool bs] 56 (0, 0)) := by
        have h := HZ6.out
        simp [World.setCell, Array.getElem?_modify, h]
      refine bodyPost_ret (results_single (r := .cell 8 56) (v := .agg #[.slice A6 xs.length c6, .int .i64 xs.length, .bool be, .int .i64 a0, .int .i64 al, .int .i64 ai, .int .i64 ai, .int .i64 af, .bool bi, .bool bi, .bool bs, .bool bs]) rfl (.cell (w.heap.size + 1) 56 #[.slice A6 xs.length c6, .int .i64 xs.length, .bool be, .int .i64 a0, .int .i64 al, .int .i64 ai, .int .i64 ai, .int .i64 af, .bool bi, .bool bi, .bool bs, .bool bs] (0, 0) _ rfl hfin Try.underlying56 rfl (by kernel_rfl) .nil)) rfl ⟨_, by rw [HFE.out], ?_, ?_⟩
      · have hne : (Value.slice A6 xs.length c6).ownBlock ≠ some (w.heap.size + 1) := fun e => by
          have h1 := own_base HR6.out _ e
          have h2 := HWL.out
          have h3 := HSW.out
          rw [World.size_alloc] at h1
          omega
        have hr := own_weaken HR6.out (show w.heap.size ≤ _ by have h2 := HWL.out; have h3 := HSW.out; rw [World.size_alloc]; omega)
        exact (own_set (own_set (own_set (own_set (own_set (own_set (own_set (own_set (own_set (own_set (own_set (own_set hr ⟨w.heap.size + 1, 0, none⟩ hne (.slice A6 xs.length c6)) ⟨w.heap.size + 1, 1, none⟩ hne (.int .i64 xs.length)) ⟨w.heap.size + 1, 2, none⟩ hne (.bool be)) ⟨w.heap.size + 1, 3, none⟩ hne (.int .i64 a0)) ⟨w.heap.size + 1, 4, none⟩ hne (.int .i64 al)) ⟨w.heap.size + 1, 5, none⟩ hne (.int .i64 ai)) ⟨w.heap.size + 1, 6, none⟩ hne (.int .i64 ai)) ⟨w.heap.size + 1, 7, none⟩ hne (.int .i64 af)) ⟨w.heap.size + 1, 8, none⟩ hne (.bool bi)) ⟨w.heap.size + 1, 9, none⟩ hne (.bool bi)) ⟨w.heap.size + 1, 10, none⟩ hne (.bool bs)) ⟨w.heap.size + 1, 11, none⟩ hne (.bool bs))
      · have hb := HBT.out.2.2.2.trans (HB6.out.mono HBT.out.2.2.2.size)
        exact (Below.setCell (Below.setCell (Below.setCell (Below.setCell (Below.setCell (Below.setCell (Below.setCell (Below.setCell (Below.setCell (Below.setCell (Below.setCell (Below.setCell hb (p := ⟨w.heap.size + 1, 0, none⟩) (Nat.le_succ _) (.slice A6 xs.length c6)) (p := ⟨w.heap.size + 1, 1, none⟩) (Nat.le_succ _) (.int .i64 xs.length)) (p := ⟨w.heap.size + 1, 2, none⟩) (Nat.le_succ _) (.bool be)) (p := ⟨w.heap.size + 1, 3, none⟩) (Nat.le_succ _) (.int .i64 a0)) (p := ⟨w.heap.size + 1, 4, none⟩) (Nat.le_succ _) (.int .i64 al)) (p := ⟨w.heap.size + 1, 5, none⟩) (Nat.le_succ _) (.int .i64 ai)) (p := ⟨w.heap.size + 1, 6, none⟩) (Nat.le_succ _) (.int .i64 ai)) (p := ⟨w.heap.size + 1, 7, none⟩) (Nat.le_succ _) (.int .i64 af)) (p := ⟨w.heap.size + 1, 8, none⟩) (Nat.le_succ _) (.bool bi)) (p := ⟨w.heap.size + 1, 9, none⟩) (Nat.le_succ _) (.bool bi)) (p := ⟨w.heap.size + 1, 10, none⟩) (Nat.le_succ _) (.bool bs)) (p := ⟨w.heap.size + 1, 11, none⟩) (Nat.le_succ _) (.bool bs))
set_option maxHeartbeats 8000000 in
theorem slicer_nil (A : Option Addr) (c : Nat) (l : List S53) (i least : Int) (w : World) (hr : Kd.C k53 w A l.length l) (hc : l.length ≤ c) (ok : Ok l) :
    Calls Try.prog 21 #[.bool true, .slice A l.length c, .int .i64 i, .int .i64 least] w fun e w' => ∃ v, e = .returned (.agg (factsV v (foldS l) i least)) ∧ Own w' w.heap.size v (foldS l) ∧ Below w.heap.size w w' := by
  have HR := Aside0.mk hr
  have HOK := Aside0.mk ok
  have hl := ok.len
  have hu53 := Try.underlying53
  obtain ⟨xs, hxs⟩ : ∃ xs, xs = foldS l := ⟨_, rfl⟩
  rw [← hxs]
  have HXS := Aside0.mk hxs
  have hxl : xs.length ≤ 2000 := by rw [hxs]; have := ok.few l.length (Nat.le_refl _); rwa [List.take_of_length_le (Nat.le_refl _)] at this
  clear hr ok hxs
  obtain ⟨W0, hW0⟩ : ∃ W0, W0 = (w.alloc (.cells #[.int .i64 least] 3)).alloc (.cells #[.slice none 0 0, .int .i64 0, .bool false, .int .i64 0, .int .i64 0, .int .i64 0, .int .i64 0, .int .i64 0, .bool false, .bool false, .bool false, .bool false] 56) := ⟨_, rfl⟩
  have HBT := Aside0.mk (base_two w #[.int .i64 least] #[.slice none 0 0, .int .i64 0, .bool false, .int .i64 0, .int .i64 0, .int .i64 0, .int .i64 0, .int .i64 0, .bool false, .bool false, .bool false, .bool false])
  rw [← hW0] at HBT
  have HW0 := Aside0.mk hW0
  clear hW0
  go_enter Try.func21, Try.ntmps21
  go_wp2_with fail
  rw [← HW0.out]
  go_wp2_with (go_at_call 42; refine (new_c _).mono ?_; rintro e w1 ⟨v0, rfl, ho, hb⟩; have HN := Aside0.mk (And.intro ho hb); clear ho hb)
  have HST : Aside0 (Own w1 W0.heap.size (.slice none 0 0) (foldS (l.take 0)) ∧ Below W0.heap.size W0 w1) := ⟨own_nil _ _ _ _, HN.out.2⟩
  clear HN
  go_loopw [17, 9] (fun q v wr => ∃ (m : Nat) (u : Value), Value.int .i64 (m : Int) = q ∧ u = v ∧ m ≤ l.length ∧ Aside0 (Own wr W0.heap.size u (foldS (l.take m)) ∧ Below W0.heap.size W0 wr)) (fun q _ _ => l.length - (intOf q).toNat)
  case atStart => exact ⟨0, _, rfl, rfl, by omega, HST⟩
  case round =>
    obtain ⟨m, u, rfl, rfl, hml, HS⟩ := hrel
    clear HST
    by_cases hlt : m < l.length
    · have hbw : Below w.heap.size w wr := HBT.out.2.2.2.trans (HS.out.2.mono HBT.out.2.2.2.size)
      obtain ⟨ad, A2, c2, e, hx0, hx1, hx2, hvc, hvi⟩ := at_T53 (Kd.C_below HR.out hbw) (m : Int) (by omega) (by omega)
      cases e
      rw [rd53 l m hlt] at hx0 hx1 hx2 hvc hvi
      simp only [Int.toNat_natCast] at hx0 hx1 hx2
      obtain ⟨o, ho⟩ : ∃ o, o = l[m] := ⟨_, rfl⟩
      rw [← ho] at hx0 hx1 hx2 hvc hvi
      have hom : o ∈ l := by rw [ho]; exact List.getElem_mem _
      have hfew := HOK.out.few m hml
      have C := Aside0.mk (fun X => sliced_c W0.heap.size W0 (wr.alloc X) u (foldS (l.take m)) o.f0 o.f1 A2 c2 o.f2 (pw_own_below HS.out.1 (below_alloc (Below.refl _ _) _)) (HS.out.2.alloc HS.out.2.size _) (Nat.le_trans HS.out.2.size (by rw [World.size_alloc]; omega)) (Kd.C_alloc hvi _) hvc (by omega) (by have := HOK.out.vals o hom; omega) (HOK.out.kind o hom))
      have HSTEP := foldS_step l m hlt
      rw [← ho] at HSTEP
      rw [← HSTEP] at C
      have hvl : o.f2.length ≤ 2147483647 := HOK.out.vals o hom
      obtain ⟨d, hd⟩ : ∃ d, d = o.f0 := ⟨_, rfl⟩
      obtain ⟨n, hn⟩ : ∃ n, n = o.f1 := ⟨_, rfl⟩
      obtain ⟨vs, hvs⟩ : ∃ vs, vs = o.f2 := ⟨_, rfl⟩
      rw [← hd] at hx0 C
      rw [← hn] at hx1 C
      rw [← hvs] at hx2 hvc hvi C hvl
      clear HSTEP ho hom hfew HS hbw hd hn hvs hvi
      go_wp2_with (go_at_call 43; refine (C.out _).mono ?_; rintro e w2 ⟨v1, rfl, ho, hb⟩; have HS2 := Aside0.mk (And.intro ho hb); clear ho hb)
      go_roundw
      case rel => exact ⟨m + 1, _, by go_num, rfl, by omega, HS2⟩
      case measure => simp [intOf]; omega
    · obtain rfl : m = l.length := by omega
      have HS2 := HS
      rw [List.take_of_length_le (Nat.le_refl _), ← HXS.out] at HS2
      obtain ⟨A', c', rfl, hc', hci⟩ := HS2.out.1.slice
      have hblL : wr.cell? ⟨w.heap.size, 0, none⟩ = some (.int .i64 least) := (cell_of_row _ _ _ _ _ _ ((HS2.out.2.block _ (by rw [HBT.out.1]; omega)).trans HBT.out.2.1)).trans rfl
      have L44 := Aside0.mk (len_c A' c' xs wr hci hc' (by omega))
      have L45 := Aside0.mk (empty_c A' c' xs wr hci hc' (by omega))
      have L46 := Aside0.mk (first_c A' c' xs wr hci hc' (by omega))
      have L47 := Aside0.mk (last_c A' c' xs wr hci hc' (by omega))
      have L48 := Aside0.mk (get_c A' c' xs i wr hci hc' (by omega))
      have L49 := Aside0.mk (has_c A' c' xs i wr hci hc' (by omega))
      have L50 := Aside0.mk (contains_c A' c' w.heap.size least xs wr hci hc' (by omega) hblL)
      have L52 := fun X => Aside0.mk (getok_c A' c' xs i (wr.alloc X) (Kd.C_alloc hci X) hc' (by omega))
      have L53 := fun X => Aside0.mk (find_c A' c' w.heap.size least xs (wr.alloc X) (Kd.C_alloc hci X) hc' (by omega) ((below_alloc (Below.refl wr.heap.size wr) X).cell (World.block_lt_of_cell? wr _ hblL) |>.trans hblL))
      have L55 := Aside0.mk (each_c A' c' xs wr.heap.size W0.heap.size W0 (wr.alloc (.cells (factsV (.slice none 0 0) xs i least) 56)) (factsV (.slice none 0 0) xs i least) (by simp [factsV]) rfl (pw_own_below HS2.out.1 (below_alloc (Below.refl _ _) _)) (heap_alloc_new wr _) (HS2.out.2.alloc HS2.out.2.size _) (Nat.le_trans HS2.out.2.size (by rw [World.size_alloc]; omega)) HS2.out.2.size (by omega))
      have HFS := Aside0.mk (fun v => facts_set v (.slice none 0 0) xs i least)
      have HFE : Aside0 (∀ v : Value, factsV v xs i least = #[v, .int .i64 xs.length, .bool ((xs.length : Int) == 0), .int .i64 (getv xs 0), .int .i64 (getv xs ((xs.length : Int) - 1)), .int .i64 (getv xs i), .int .i64 (getv xs i), .int .i64 ((firstGe least xs).getD 0), .bool (hasv xs i), .bool (hasv xs i), .bool (firstGe least xs).isSome, .bool (firstGe least xs).isSome]) := ⟨fun v => rfl⟩
      rw [HFE.out] at L55
      have HFS2 : Aside0 (∀ v : Value, (#[.slice none 0 0, .int .i64 xs.length, .bool ((xs.length : Int) == 0), .int .i64 (getv xs 0), .int .i64 (getv xs ((xs.length : Int) - 1)), .int .i64 (getv xs i), .int .i64 (getv xs i), .int .i64 ((firstGe least xs).getD 0), .bool (hasv xs i), .bool (hasv xs i), .bool (firstGe least xs).isSome, .bool (firstGe least xs).isSome] : Array Value).setIfInBounds 0 v = #[v, .int .i64 xs.length, .bool ((xs.length : Int) == 0), .int .i64 (getv xs 0), .int .i64 (getv xs ((xs.length : Int) - 1)), .int .i64 (getv xs i), .int .i64 (getv xs i), .int .i64 ((firstGe least xs).getD 0), .bool (hasv xs i), .bool (hasv xs i), .bool (firstGe least xs).isSome, .bool (firstGe least xs).isSome]) := ⟨fun v => by have := HFS.out v; rwa [HFE.out, HFE.out] at this⟩
      obtain ⟨be, hbe⟩ : ∃ be, be = ((xs.length : Int) == 0) := ⟨_, rfl⟩
      obtain ⟨a0, ha0⟩ : ∃ a0, a0 = getv xs 0 := ⟨_, rfl⟩
      obtain ⟨al, hal⟩ : ∃ al, al = getv xs ((xs.length : Int) - 1) := ⟨_, rfl⟩
      obtain ⟨ai, hai⟩ : ∃ ai, ai = getv xs i := ⟨_, rfl⟩
      obtain ⟨bi, hbi⟩ : ∃ bi, bi = hasv xs i := ⟨_, rfl⟩
      obtain ⟨bs, hbs⟩ : ∃ bs, bs = (firstGe least xs).isSome := ⟨_, rfl⟩
      obtain ⟨af, haf⟩ : ∃ af, af = (firstGe least xs).getD 0 := ⟨_, rfl⟩
      rw [← hbe] at L45 L55 HFS2 HFE
      rw [← ha0] at L46 L55 HFS2 HFE
      rw [← hal] at L47 L55 HFS2 HFE
      rw [← hai] at L48 L52 L55 HFS2 HFE
      rw [← hbi] at L49 L52 L55 HFS2 HFE
      rw [← hbs] at L50 L53 L55 HFS2 HFE
      rw [← haf] at L53 L55 HFS2 HFE
      have HWL := Aside0.mk (show W0.heap.size = w.heap.size + 2 from HBT.out.1)
      have HSW := Aside0.mk HS2.out.2.size
      clear HS HFS hbe ha0 hal hai hbi hbs haf hblL hci
      go_wp2_with (first
        | (go_at_call 44; with_reducible refine L44.out.mono ?_; rintro e w1 ⟨rfl, hw⟩; replace hw := hw.symm; subst hw)
        | (go_at_call 45; with_reducible refine L45.out.mono ?_; rintro e w1 ⟨rfl, hw⟩; replace hw := hw.symm; subst hw)
        | (go_at_call 46; with_reducible refine L46.out.mono ?_; rintro e w1 ⟨rfl, hw⟩; replace hw := hw.symm; subst hw)
        | (go_at_call 47; with_reducible refine L47.out.mono ?_; rintro e w1 ⟨rfl, hw⟩; replace hw := hw.symm; subst hw)
        | (go_at_call 48; with_reducible refine L48.out.mono ?_; rintro e w1 ⟨rfl, hw⟩; replace hw := hw.symm; subst hw)
        | (go_at_call 49; with_reducible refine L49.out.mono ?_; rintro e w1 ⟨rfl, hw⟩; replace hw := hw.symm; subst hw)
        | (go_at_call 50; with_reducible refine L50.out.mono ?_; rintro e w1 ⟨rfl, hw⟩; replace hw := hw.symm; subst hw)
        | (go_at_call 52; with_reducible refine (L52 _).out.mono ?_; rintro e w1 ⟨rfl, hw⟩; replace hw := hw.symm; subst hw)
        | (go_at_call 53; with_reducible refine (L53 _).out.mono ?_; rintro e w1 ⟨rfl, hw⟩; replace hw := hw.symm; subst hw)
        | (go_at_call 55; with_reducible refine L55.out.mono ?_; rintro e w6 ⟨rfl, v6, hfb, hb6⟩; obtain ⟨A6, c6, rfl, -, -⟩ := hfb.row.slice; have hblk6 := hfb.blk; rw [HFS2.out] at hblk6; have hz6 := (hb6.block (w.heap.size + 1) (by rw [HWL.out]; omega)).trans HBT.out.2.2.1; have q0 := (cell_of_row w6 wr.heap.size 0 _ _ _ hblk6).trans rfl; have q1 := (cell_of_row w6 wr.heap.size 1 _ _ _ hblk6).trans rfl; have q2 := (cell_of_row w6 wr.heap.size 2 _ _ _ hblk6).trans rfl; have q3 := (cell_of_row w6 wr.heap.size 3 _ _ _ hblk6).trans rfl; have q4 := (cell_of_row w6 wr.heap.size 4 _ _ _ hblk6).trans rfl; have q5 := (cell_of_row w6 wr.heap.size 5 _ _ _ hblk6).trans rfl; have q6 := (cell_of_row w6 wr.heap.size 6 _ _ _ hblk6).trans rfl; have q7 := (cell_of_row w6 wr.heap.size 7 _ _ _ hblk6).trans rfl; have q8 := (cell_of_row w6 wr.heap.size 8 _ _ _ hblk6).trans rfl; have q9 := (cell_of_row w6 wr.heap.size 9 _ _ _ hblk6).trans rfl; have q10 := (cell_of_row w6 wr.heap.size 10 _ _ _ hblk6).trans rfl; have q11 := (cell_of_row w6 wr.heap.size 11 _ _ _ hblk6).trans rfl; have z0 := (cell_of_row w6 (w.heap.size + 1) 0 _ _ _ hz6).trans rfl; have z1 := (cell_of_row w6 (w.heap.size + 1) 1 _ _ _ hz6).trans rfl; have z2 := (cell_of_row w6 (w.heap.size + 1) 2 _ _ _ hz6).trans rfl; have z3 := (cell_of_row w6 (w.heap.size + 1) 3 _ _ _ hz6).trans rfl; have z4 := (cell_of_row w6 (w.heap.size + 1) 4 _ _ _ hz6).trans rfl; have z5 := (cell_of_row w6 (w.heap.size + 1) 5 _ _ _ hz6).trans rfl; have z6 := (cell_of_row w6 (w.heap.size + 1) 6 _ _ _ hz6).trans rfl; have z7 := (cell_of_row w6 (w.heap.size + 1) 7 _ _ _ hz6).trans rfl; have z8 := (cell_of_row w6 (w.heap.size + 1) 8 _ _ _ hz6).trans rfl; have z9 := (cell_of_row w6 (w.heap.size + 1) 9 _ _ _ hz6).trans rfl; have z10 := (cell_of_row w6 (w.heap.size + 1) 10 _ _ _ hz6).trans rfl; have z11 := (cell_of_row w6 (w.heap.size + 1) 11 _ _ _ hz6).trans rfl; have f0 := froz_of hz6 0; have f1 := froz_of hz6 1; have f2 := froz_of hz6 2; have f3 := froz_of hz6 3; have f4 := froz_of hz6 4; have f5 := froz_of hz6 5; have f6 := froz_of hz6 6; have f7 := froz_of hz6 7; have f8 := froz_of hz6 8; have f9 := froz_of hz6 9; have f10 := froz_of hz6 10; have f11 := froz_of hz6 11; have HB6 := Aside0.mk hb6; have HR6 := Aside0.mk hfb.row; have HBK6 := Aside0.mk hblk6; have HZ6 := Aside0.mk hz6; clear hfb hb6 hblk6 hz6))
      have hfin : ((((((((((((w6.setCell ⟨w.heap.size + 1, 0, none⟩ (.slice A6 xs.length c6)).setCell ⟨w.heap.size + 1, 1, none⟩ (.int .i64 xs.length)).setCell ⟨w.heap.size + 1, 2, none⟩ (.bool be)).setCell ⟨w.heap.size + 1, 3, none⟩ (.int .i64 a0)).setCell ⟨w.heap.size + 1, 4, none⟩ (.int .i64 al)).setCell ⟨w.heap.size + 1, 5, none⟩ (.int .i64 ai)).setCell ⟨w.heap.size + 1, 6, none⟩ (.int .i64 ai)).setCell ⟨w.heap.size + 1, 7, none⟩ (.int .i64 af)).setCell ⟨w.heap.size + 1, 8, none⟩ (.bool bi)).setCell ⟨w.heap.size + 1, 9, none⟩ (.bool bi)).setCell ⟨w.heap.size + 1, 10, none⟩ (.bool bs)).setCell ⟨w.heap.size + 1, 11, none⟩ (.bool bs)).heap[w.heap.size + 1]? = some (.cells #[.slice A6 xs.length c6, .int .i64 xs.length, .bool be, .int .i64 a0, .int .i64 al, .int .i64 ai, .int .i64 ai, .int .i64 af, .bool bi, .bool bi, .bool bs, .bool bs] 56 (0, 0)) := by
        have h := HZ6.out
        simp [World.setCell, Array.getElem?_modify, h]
      refine bodyPost_ret (results_single (r := .cell 8 56) (v := .agg #[.slice A6 xs.length c6, .int .i64 xs.length, .bool be, .int .i64 a0, .int .i64 al, .int .i64 ai, .int .i64 ai, .int .i64 af, .bool bi, .bool bi, .bool bs, .bool bs]) rfl (.cell (w.heap.size + 1) 56 #[.slice A6 xs.length c6, .int .i64 xs.length, .bool be, .int .i64 a0, .int .i64 al, .int .i64 ai, .int .i64 ai, .int .i64 af, .bool bi, .bool bi, .bool bs, .bool bs] (0, 0) _ rfl hfin Try.underlying56 rfl (by kernel_rfl) .nil)) rfl ⟨_, by rw [HFE.out], ?_, ?_⟩
      · have hne : (Value.slice A6 xs.length c6).ownBlock ≠ some (w.heap.size + 1) := fun e => by
          have h1 := own_base HR6.out _ e
          have h2 := HWL.out
          have h3 := HSW.out
          rw [World.size_alloc] at h1
          omega
        have hr := own_weaken HR6.out (show w.heap.size ≤ _ by have h2 := HWL.out; have h3 := HSW.out; rw [World.size_alloc]; omega)
        exact (own_set (own_set (own_set (own_set (own_set (own_set (own_set (own_set (own_set (own_set (own_set (own_set hr ⟨w.heap.size + 1, 0, none⟩ hne (.slice A6 xs.length c6)) ⟨w.heap.size + 1, 1, none⟩ hne (.int .i64 xs.length)) ⟨w.heap.size + 1, 2, none⟩ hne (.bool be)) ⟨w.heap.size + 1, 3, none⟩ hne (.int .i64 a0)) ⟨w.heap.size + 1, 4, none⟩ hne (.int .i64 al)) ⟨w.heap.size + 1, 5, none⟩ hne (.int .i64 ai)) ⟨w.heap.size + 1, 6, none⟩ hne (.int .i64 ai)) ⟨w.heap.size + 1, 7, none⟩ hne (.int .i64 af)) ⟨w.heap.size + 1, 8, none⟩ hne (.bool bi)) ⟨w.heap.size + 1, 9, none⟩ hne (.bool bi)) ⟨w.heap.size + 1, 10, none⟩ hne (.bool bs)) ⟨w.heap.size + 1, 11, none⟩ hne (.bool bs))
      · have hb := HBT.out.2.2.2.trans (HB6.out.mono HBT.out.2.2.2.size)
        exact (Below.setCell (Below.setCell (Below.setCell (Below.setCell (Below.setCell (Below.setCell (Below.setCell (Below.setCell (Below.setCell (Below.setCell (Below.setCell (Below.setCell hb (p := ⟨w.heap.size + 1, 0, none⟩) (Nat.le_succ _) (.slice A6 xs.length c6)) (p := ⟨w.heap.size + 1, 1, none⟩) (Nat.le_succ _) (.int .i64 xs.length)) (p := ⟨w.heap.size + 1, 2, none⟩) (Nat.le_succ _) (.bool be)) (p := ⟨w.heap.size + 1, 3, none⟩) (Nat.le_succ _) (.int .i64 a0)) (p := ⟨w.heap.size + 1, 4, none⟩) (Nat.le_succ _) (.int .i64 al)) (p := ⟨w.heap.size + 1, 5, none⟩) (Nat.le_succ _) (.int .i64 ai)) (p := ⟨w.heap.size + 1, 6, none⟩) (Nat.le_succ _) (.int .i64 ai)) (p := ⟨w.heap.size + 1, 7, none⟩) (Nat.le_succ _) (.int .i64 af)) (p := ⟨w.heap.size + 1, 8, none⟩) (Nat.le_succ _) (.bool bi)) (p := ⟨w.heap.size + 1, 9, none⟩) (Nat.le_succ _) (.bool bi)) (p := ⟨w.heap.size + 1, 10, none⟩) (Nat.le_succ _) (.bool bs)) (p := ⟨w.heap.size + 1, 11, none⟩) (Nat.le_succ _) (.bool bs))
end Go.Proofs.Ytapbnbinoakbhaa.SlcT
