/-
  Proved: the law's helpers: cacheFew, cachePurged (of rows that are the same but for their order), cacheSame (of results that are the same). Conditions: each theorem's own.
-/
import Derived.Test.YtphnnbbgcnilgaaCacQ
namespace Go.Proofs.Ytphnnbbgcnilgaa.CacM
open Go Go.RowKit Go.Proofs.YtphnnbbgcnilgaaW.PrintWords Go.Proofs.Ytphnnbbgcnilgaa.Common Go.Proofs.Ytphnnbbgcnilgaa.CacU Go.Proofs.Ytphnnbbgcnilgaa.CacW Go.Proofs.Ytphnnbbgcnilgaa.GFnCachePurge
set_option linter.unusedVariables false
set_option linter.unusedSimpArgs false
set_option maxRecDepth 1000000
theorem info3' : ∃ j, Try.prog.info? 3 = some j ∧ j.size = 1 := by
  have h : (Try.prog.info? 3).map (fun i => i.size) = some 1 := by kernel_rfl
  obtain ⟨j, hj, e⟩ := Option.map_eq_some_iff.1 h
  exact ⟨j, hj, e⟩
theorem eqIn (w : World) (d : Nat) (a b c e : Int) : (Op.equalIn (d + 2) 64 (.agg #[.int .i64 a, .int .i64 b]) (.agg #[.int .i64 c, .int .i64 e])).run Try.prog w = .ok ((a == c) && (b == e)) w := by
  obtain ⟨j, hj, hs⟩ := info3'
  rw [Op.equalIn]
  simp only [Sem.run_bind, run_underlying Try.underlying64, Result.andThen_ok]
  have h3 : ∀ x y, (Op.equalIn (d + 1) 3 (.int .i64 x) (.int .i64 y)).run Try.prog w = .ok (x == y) w := fun x y => run_equalIn_int w d 3 .i64 .i64 x y Try.underlying3
  cases h1 : (a == c) <;> cases h2 : (b == e) <;> simp [sizeOf, typeInfo, hj, hs, part, isAgg, run_underlying Try.underlying3, List.range', Result.andThen, h3, h1, h2]
theorem eq64 (w : World) (a b c e : Int) : (binOp .eql 64 (.agg #[.int .i64 a, .int .i64 b]) (.agg #[.int .i64 c, .int .i64 e])).run Try.prog w = .ok (.bool ((a == c) && (b == e))) w := by
  rw [run_eql_struct, show (10000 : Nat) = 9998 + 2 from rfl, eqIn]
  rfl
theorem neq64 (w : World) (a b c e : Int) : (binOp .neq 64 (.agg #[.int .i64 a, .int .i64 b]) (.agg #[.int .i64 c, .int .i64 e])).run Try.prog w = .ok (.bool (!((a == c) && (b == e)))) w := by
  rw [run_neq_struct, show (10000 : Nat) = 9998 + 2 from rfl, eqIn]
  rfl
theorem at64 {w : World} {A : Option Addr} {n : Nat} {xs : List (Int × Int)} (h : Kd.C kpair w A n xs) (q : Nat) (h1 : q < n) : ∃ ad, A = some ad ∧ w.cell? (ad.add (q * 2)) = some (.int .i64 (xs.getD q (0, 0)).1) ∧ w.cell? ⟨(ad.add (q * 2)).block, (ad.add (q * 2)).off + 1, none⟩ = some (.int .i64 (xs.getD q (0, 0)).2) := by
  obtain ⟨ad, c, e, _, hK, hc0⟩ := Kd.C_get h (0, 0) (q : Int) (by omega) (by omega)
  rw [Int.toNat_natCast] at hK hc0
  obtain ⟨_, _, rfl, rfl, rfl⟩ := hK
  have hc : ∀ j u, _ → w.cell? (ad.add (q * 2 + j)) = some u := hc0
  refine ⟨ad, e, hc 0 _ rfl, ?_⟩
  rw [← add_field _ _ 1 (by omega)]; exact hc 1 _ rfl
def few (l : List S33) : Bool := decide (l.length ≤ 2000) && l.all fun x => decide (0 ≤ x.f0 ∧ x.f0 ≤ 8)
theorem few_ok {l : List S33} (h : few l = true) : ∀ x ∈ l, 0 ≤ x.f0 ∧ x.f0 ≤ 8 := by
  unfold few at h
  rw [Bool.and_eq_true, List.all_eq_true] at h
  exact fun x hx => by simpa using h.2 x hx
set_option maxHeartbeats 1000000 in
theorem few_c (l : List S33) (hl : l.length ≤ 2147483647) {A : Option Addr} {c : Nat} {w : World} (hC : Kd.C k33 w A l.length l) :
    Calls Try.prog 15 #[.slice A l.length c] w fun e w' => e = .returned (.bool (few l)) ∧ w' = w := by
  have HC : ∀ q : Nat, q < l.length → Aside0 (∃ ad, A = some ad ∧ w.cell? (ad.add (q * 3)) = some (.int .i64 (rd_T33 l (q : Int)).f0)) := fun q hq => by
    obtain ⟨ad, e, h0, _⟩ := at_T33 hC (q : Int) (by omega) (by omega)
    rw [Int.toNat_natCast] at h0
    exact ⟨ad, e, h0⟩
  clear hC
  by_cases hb : l.length ≤ 2000
  · have hd : decide ((l.length : Int) > 2000) = false := decide_eq_false (by omega)
    go_enter Try.func15, Try.ntmps15
    go_wp2
    go_loopw [3] (fun i wr => ∃ (q : Nat), Value.int .i64 (q : Int) = i ∧ q ≤ l.length ∧ Aside0 (∀ x ∈ l.take q, 0 ≤ x.f0 ∧ x.f0 ≤ 8) ∧ wr = w) (fun i _ => l.length - (intOf i).toNat)
    case atStart => exact ⟨0, rfl, by omega, ⟨by simp⟩, rfl⟩
    case round =>
      obtain ⟨q, rfl, hq, HQ, rfl⟩ := hrel
      by_cases hlt : q < l.length
      · obtain ⟨ad, rfl, hx⟩ := (HC q hlt).out
        rw [CacQ.rd33 l q hlt] at hx
        obtain ⟨y, hy⟩ : ∃ y, y = l[q].f0 := ⟨_, rfl⟩
        rw [← hy] at hx
        have HY := Aside0.mk hy
        clear hy HC
        by_cases hneg : y < 0
        · have h1 : decide (y < 0) = true := decide_eq_true hneg
          have HF : Aside0 (few l = false) := ⟨by
            cases hf : few l with
            | false => rfl
            | true => have := (few_ok hf l[q] (List.getElem_mem hlt)).1; have h2 := HY.out; omega⟩
          clear hneg
          go_wp2
          go_ret
          exact ⟨by rw [HF.out]; rfl, rfl⟩
        · have h1 : decide (y < 0) = false := decide_eq_false hneg
          by_cases h8 : 8 < y
          · have h2 : decide (y > 8) = true := decide_eq_true (by omega)
            have HF : Aside0 (few l = false) := ⟨by
              cases hf : few l with
              | false => rfl
              | true => have := (few_ok hf l[q] (List.getElem_mem hlt)).2; have h3 := HY.out; omega⟩
            clear hneg h8
            go_wp2
            go_ret
            exact ⟨by rw [HF.out]; rfl, rfl⟩
          · have h2 : decide (y > 8) = false := decide_eq_false (by omega)
            have HB : Aside0 (0 ≤ y ∧ y ≤ 8) := ⟨by omega⟩
            clear hneg h8
            go_wp2
            go_roundw
            case rel =>
              refine ⟨q + 1, by go_num, by omega, ⟨fun x hx => ?_⟩, trivial⟩
              rw [List.take_succ_eq_append_getElem hlt] at hx
              rcases List.mem_append.1 hx with hx | hx
              · exact HQ.out x hx
              · obtain rfl := List.mem_singleton.1 hx
                rw [← HY.out]
                exact HB.out
            case measure => simp [intOf]; omega
      · obtain rfl : q = l.length := by omega
        have HF : Aside0 (few l = true) := ⟨by
          have := HQ.out
          rw [List.take_length] at this
          unfold few
          rw [Bool.and_eq_true, List.all_eq_true]
          exact ⟨decide_eq_true hb, fun x hx => decide_eq_true (this x hx)⟩⟩
        clear HC
        go_wp2
        go_ret
        exact ⟨by rw [HF.out]; rfl, rfl⟩
  · have hd : decide ((l.length : Int) > 2000) = true := decide_eq_true (by omega)
    have HF : Aside0 (few l = false) := ⟨by unfold few; rw [decide_eq_false hb]; rfl⟩
    clear hb
    go_enter Try.func15, Try.ntmps15
    go_wp2
    go_ret
    exact ⟨by rw [HF.out]; rfl, rfl⟩
theorem count_one : ∀ (l : List (Int × Int)) (x : Int × Int), l.Nodup → x ∈ l → l.count x = 1
  | y :: t, x, hn, hx => by
    rw [List.nodup_cons] at hn
    by_cases h : y = x
    · subst h
      rw [List.count_cons_self, List.count_eq_zero.2 hn.1]
    · rw [List.count_cons_of_ne h]
      exact count_one t x hn.2 (by rcases List.mem_cons.1 hx with e | e; exact absurd e.symm h; exact e)
set_option maxHeartbeats 2000000 in
theorem purged_c (G H : List (Int × Int)) (hp : G.Perm H) (hn : H.Nodup) (hl : H.length ≤ 1000) {A A' : Option Addr} {c c' : Nat} {w : World} (hC : Kd.C kpair w A G.length G) (hC' : Kd.C kpair w A' H.length H) :
    Calls Try.prog 16 #[.slice A G.length c, .slice A' H.length c'] w fun e w' => e = .returned (.bool true) ∧ ∃ nd, w' = w.drewN nd := by
  have HC : ∀ q : Nat, q < G.length → Aside0 (∃ ad, A = some ad ∧ w.cell? (ad.add (q * 2)) = some (.int .i64 (G.getD q (0, 0)).1) ∧ w.cell? ⟨(ad.add (q * 2)).block, (ad.add (q * 2)).off + 1, none⟩ = some (.int .i64 (G.getD q (0, 0)).2)) := fun q hq => ⟨at64 hC q hq⟩
  have HC' : ∀ q : Nat, q < H.length → Aside0 (∃ ad, A' = some ad ∧ w.cell? (ad.add (q * 2)) = some (.int .i64 (H.getD q (0, 0)).1) ∧ w.cell? ⟨(ad.add (q * 2)).block, (ad.add (q * 2)).off + 1, none⟩ = some (.int .i64 (H.getD q (0, 0)).2)) := fun q hq => ⟨at64 hC' q hq⟩
  obtain ⟨K, hK⟩ : ∃ K, K = H.length := ⟨_, rfl⟩
  have hGK : G.length = K := by rw [hK]; exact hp.length_eq
  have HP := Aside0.mk hp
  have HN := Aside0.mk hn
  have HK := Aside0.mk hK
  have HGK := Aside0.mk hGK
  rw [← hK] at hl HC'
  rw [hGK] at HC
  rw [← hK, hGK]
  clear hC hC' hp hn hK hGK
  go_enter Try.func16, Try.ntmps16
  go_wp2
  go_loopw [5] (fun i wr => ∃ (q nd : Nat), Value.int .i64 (q : Int) = i ∧ q ≤ K ∧ wr = w.drewN nd) (fun i _ => K - (intOf i).toNat)
  case atStart => exact ⟨0, 0, rfl, by omega, rfl⟩
  case round =>
    obtain ⟨q, nd, rfl, hq, rfl⟩ := hrel
    by_cases hlt : q < K
    · obtain ⟨ad', rfl, hy0, hy1⟩ := (HC' q hlt).out
      obtain ⟨⟨y0, y1⟩, hy⟩ : ∃ y, y = H.getD q (0, 0) := ⟨_, rfl⟩
      rw [← hy] at hy0 hy1
      dsimp only at hy0 hy1
      have HY : Aside0 ((y0, y1) ∈ H) := ⟨by
        rw [hy, List.getD_eq_getElem?_getD, List.getElem?_eq_getElem (by rw [← HK.out]; exact hlt)]
        exact List.getElem_mem _⟩
      clear hy HC'
      go_wp2
      go_loopw [6, 7] (fun s i wr => ∃ (k n2 cnt : Nat), Value.int .i64 (k : Int) = i ∧ Value.int .i64 (cnt : Int) = s ∧ k ≤ K ∧ cnt ≤ k ∧ Aside0 (cnt = (G.take k).count (y0, y1)) ∧ wr = w.drewN n2) (fun _ i _ => K - (intOf i).toNat)
      case atStart => exact ⟨0, nd, 0, rfl, rfl, by omega, by omega, ⟨by simp⟩, rfl⟩
      case round =>
        obtain ⟨k, n2, cnt, rfl, rfl, hk, hck, HCT, rfl⟩ := hrel
        by_cases hlk : k < K
        · obtain ⟨ad, rfl, hx0, hx1⟩ := (HC k hlk).out
          obtain ⟨⟨x0, x1⟩, hx⟩ : ∃ x, x = G.getD k (0, 0) := ⟨_, rfl⟩
          rw [← hx] at hx0 hx1
          dsimp only at hx0 hx1
          have hlg : k < G.length := by rw [HGK.out]; exact hlk
          have HX : Aside0 (G.take (k + 1) = G.take k ++ [(x0, x1)]) := ⟨by
            rw [hx, List.take_succ_eq_append_getElem hlg, List.getD_eq_getElem?_getD, List.getElem?_eq_getElem hlg]; rfl⟩
          clear hx hlg HC
          by_cases he : x0 = y0 ∧ x1 = y1
          · have heq : ∀ W, (binOp .eql 64 (.agg #[.int .i64 x0, .int .i64 x1]) (.agg #[.int .i64 y0, .int .i64 y1])).run Try.prog W = .ok (.bool true) W := fun W => by rw [eq64]; simp [he.1, he.2]
            have HC2 : Aside0 (cnt + 1 = (G.take (k + 1)).count (y0, y1)) := ⟨by rw [HX.out, List.count_append, ← HCT.out, he.1, he.2]; simp⟩
            clear he
            go_wp2
            go_quiet (fail)
            go_wp2
            go_roundw
            case rel => exact ⟨k + 1, _, cnt + 1, by go_num, by go_num, by omega, by omega, HC2, rfl⟩
            case measure => simp [intOf]; omega
          · have heq : ∀ W, (binOp .eql 64 (.agg #[.int .i64 x0, .int .i64 x1]) (.agg #[.int .i64 y0, .int .i64 y1])).run Try.prog W = .ok (.bool false) W := fun W => by
              rw [eq64]
              have : ((x0 == y0) && (x1 == y1)) = false := by
                cases h : ((x0 == y0) && (x1 == y1)) with
                | false => rfl
                | true => exact absurd (by simpa using h) he
              rw [this]
            have HC2 : Aside0 (cnt = (G.take (k + 1)).count (y0, y1)) := ⟨by
              rw [HX.out, List.count_append, ← HCT.out, List.count_singleton]
              have : ((x0, x1) == (y0, y1)) = false := by
                cases h : ((x0, x1) == (y0, y1)) with
                | false => rfl
                | true => exact absurd (by simpa using h) he
              rw [this]; rfl⟩
            clear he
            go_wp2
            go_quiet (fail)
            go_wp2
            go_roundw
            case rel => exact ⟨k + 1, _, cnt, by go_num, rfl, by omega, by omega, HC2, rfl⟩
            case measure => simp [intOf]; omega
        · have hkK : k = K := by omega
          have hone : cnt = 1 := by
            have h1 := HCT.out
            rw [hkK, ← HGK.out, List.take_length, HP.out.count_eq] at h1
            rw [h1]
            exact count_one _ _ HN.out HY.out
          subst hone
          subst hkK
          clear HC
          go_wp2
          go_roundw
          case rel => exact ⟨q + 1, n2, by go_num, by omega, rfl⟩
          case measure => simp [intOf]; omega
    · obtain rfl : q = K := by omega
      clear HC HC'
      go_wp2
      go_ret
      exact ⟨rfl, nd, rfl⟩
set_option maxHeartbeats 4000000 in
theorem same_c (b0 b4 : Bool) (i1 i2 : Int) (r : Nat) (G : List (Int × Int)) (hr : Ieee.double.order r r = some .eq) (hl : G.length ≤ 1000) {A A' : Option Addr} {c c' : Nat} {w : World} (hC : Kd.C kpair w A G.length G) (hC' : Kd.C kpair w A' G.length G) :
    Calls Try.prog 17 #[.agg #[.bool b0, .int .i64 i1, .int .i64 i2, .float .f64 r, .bool b4, .slice A G.length c], .agg #[.bool b0, .int .i64 i1, .int .i64 i2, .float .f64 r, .bool b4, .slice A' G.length c'], .bool true] w fun e w' => e = .returned (.bool true) ∧ Below w.heap.size w w' := by
  have HC : Aside0 (∀ q : Nat, q < G.length → ∃ ad, A = some ad ∧ w.cell? (ad.add (q * 2)) = some (.int .i64 (G.getD q (0, 0)).1) ∧ w.cell? ⟨(ad.add (q * 2)).block, (ad.add (q * 2)).off + 1, none⟩ = some (.int .i64 (G.getD q (0, 0)).2)) := ⟨fun q hq => at64 hC q hq⟩
  have HC' : Aside0 (∀ q : Nat, q < G.length → ∃ ad, A' = some ad ∧ w.cell? (ad.add (q * 2)) = some (.int .i64 (G.getD q (0, 0)).1) ∧ w.cell? ⟨(ad.add (q * 2)).block, (ad.add (q * 2)).off + 1, none⟩ = some (.int .i64 (G.getD q (0, 0)).2)) := ⟨fun q hq => at64 hC' q hq⟩
  have hfe : FloatKind.f64.format.order r r = some .eq := hr
  clear hC hC' hr
  obtain ⟨K, hK⟩ : ∃ K, K = G.length := ⟨_, rfl⟩
  rw [← hK] at hl HC HC'
  rw [← hK]
  clear hK
  go_enter Try.func17, Try.ntmps17
  go_wp2_with (first
    | ((with_reducible refine gate_dst (N := 3) rfl ?_); (try (refine gate_guard (by rfl) ?_; dsimp only)); refine box_event ?hg (N := 3) ?hd (cs := #[.bool b0, .int .i64 i1, .int .i64 i2, .float .f64 r, .bool b4, .slice A K c]) (t := 42) ?hr ?_; (case hd => rfl); (case hg => rfl); (case hr => first | (go_simp; done) | (go_simp; rfl)); intro g1 hg1 w1 hb1 hB1; have X1 := Aside0.mk hb1; have X2 := Aside0.mk hB1; clear hg1 hb1 hB1)
    | ((with_reducible refine gate_dst (N := 4) rfl ?_); (try (refine gate_guard (by rfl) ?_; dsimp only)); refine box_event ?hg (N := 4) ?hd (cs := #[.bool b0, .int .i64 i1, .int .i64 i2, .float .f64 r, .bool b4, .slice A' K c']) (t := 42) ?hr ?_; (case hd => rfl); (case hg => rfl); (case hr => first | (go_simp; done) | (go_simp; rfl)); intro g2 hg2 w2 hb2 hB2; have Y1 := Aside0.mk hb2; have Y2 := Aside0.mk (X2.out.trans (hB2.mono X2.out.size)); (have x1 : w2.heap[g1]? = some (.cells #[.bool b0, .int .i64 i1, .int .i64 i2, .float .f64 r, .bool b4, .slice A K c] 42 (0, 0)) := (hB2.block g1 (CacZ.lt_of X1.out)).trans X1.out); have p0 : w2.cell? ⟨g1, 0, none⟩ = some (.bool b0) := (blk_cell x1 0).trans rfl; have p1 : w2.cell? ⟨g1, 1, none⟩ = some (.int .i64 i1) := (blk_cell x1 1).trans rfl; have p2 : w2.cell? ⟨g1, 2, none⟩ = some (.int .i64 i2) := (blk_cell x1 2).trans rfl; have p3 : w2.cell? ⟨g1, 3, none⟩ = some (.float .f64 r) := (blk_cell x1 3).trans rfl; have p4 : w2.cell? ⟨g1, 4, none⟩ = some (.bool b4) := (blk_cell x1 4).trans rfl; have p5 : w2.cell? ⟨g1, 5, none⟩ = some (.slice A K c) := (blk_cell x1 5).trans rfl; have q0 : w2.cell? ⟨g2, 0, none⟩ = some (.bool b0) := (blk_cell Y1.out 0).trans rfl; have q1 : w2.cell? ⟨g2, 1, none⟩ = some (.int .i64 i1) := (blk_cell Y1.out 1).trans rfl; have q2 : w2.cell? ⟨g2, 2, none⟩ = some (.int .i64 i2) := (blk_cell Y1.out 2).trans rfl; have q3 : w2.cell? ⟨g2, 3, none⟩ = some (.float .f64 r) := (blk_cell Y1.out 3).trans rfl; have q4 : w2.cell? ⟨g2, 4, none⟩ = some (.bool b4) := (blk_cell Y1.out 4).trans rfl; have q5 : w2.cell? ⟨g2, 5, none⟩ = some (.slice A' K c') := (blk_cell Y1.out 5).trans rfl; clear hg2 hb2 hB2 x1))
  go_loopw [8] (fun i wr => ∃ (q nd : Nat), Value.int .i64 (q : Int) = i ∧ q ≤ K ∧ wr = w2.drewN nd) (fun i _ => K - (intOf i).toNat)
  case atStart => exact ⟨0, 0, rfl, by omega, rfl⟩
  case round =>
    obtain ⟨q, nd, rfl, hq, rfl⟩ := hrel
    by_cases hlt : q < K
    · obtain ⟨ad, rfl, hx0, hx1⟩ := HC.out q hlt
      obtain ⟨ad', rfl, hy0, hy1⟩ := HC'.out q hlt
      generalize G.getD q (0, 0) = x at hx0 hx1 hy0 hy1
      obtain ⟨x0, x1⟩ := x
      dsimp only at hx0 hx1 hy0 hy1
      replace hx0 := (Y2.out.cell (World.block_lt_of_cell? w _ hx0)).trans hx0
      replace hx1 := (Y2.out.cell (World.block_lt_of_cell? w _ hx1)).trans hx1
      replace hy0 := (Y2.out.cell (World.block_lt_of_cell? w _ hy0)).trans hy0
      replace hy1 := (Y2.out.cell (World.block_lt_of_cell? w _ hy1)).trans hy1
      have hneq : ∀ W, (binOp .neq 64 (.agg #[.int .i64 x0, .int .i64 x1]) (.agg #[.int .i64 x0, .int .i64 x1])).run Try.prog W = .ok (.bool false) W := fun W => by rw [neq64]; simp
      go_wp2
      go_quiet (fail)
      go_wp2
      go_roundw
      case rel => exact ⟨q + 1, _, by go_num, by omega, rfl⟩
      case measure => simp [intOf]; omega
    · obtain rfl : q = K := by omega
      go_wp2
      go_ret
      exact ⟨rfl, pw_below_drewN Y2.out _⟩
end Go.Proofs.Ytphnnbbgcnilgaa.CacM
