/-
  Proved: what NewSlicer, Clone, Filter, Map of tw.Slicer[int] and impl.within return. Conditions: rows as said, of at most 2^32 elements.
-/
import Derived.Test.YtapbnbinoakbhaaSlcA
import Derived.WalkSpells
namespace Go.Proofs.Ytapbnbinoakbhaa.SlcM
open Go.RowKit Go.Proofs.YtapbnbinoakbhaaW.PrintWords Go.Proofs.Ytapbnbinoakbhaa.Common Go.Proofs.Ytapbnbinoakbhaa.SlcQ Go.Proofs.Ytapbnbinoakbhaa.SlcA
set_option linter.unusedVariables false
set_option linter.unusedSimpArgs false
set_option maxRecDepth 1000000

theorem new_c (W : World) : Calls Try.prog 42 #[] W fun e w' => ∃ v, e = .returned v ∧ Own w' W.heap.size v [] ∧ Below W.heap.size W w' := by
  have hmk : ∀ W : World, (Instr.makeSlice 113 (.int .i64 0) (.int .i64 0)).run Try.prog W = .ok (.slice (some ⟨W.heap.size, 0, none⟩) 0 0) (W.alloc (.cells (madeCells #[.int .i64 0] 0) 3)) := print_make 113 3 .i64 8 Try.underlying113 info3 (by decide) 0 (by omega)
  go_enter Try.func42, Try.ntmps42
  go_wp2
  go_ret
  refine ⟨_, rfl, ⟨by simp [nums], .inr ⟨W.heap.size, 0, _, rfl, Nat.le_refl _, heap_alloc_new W _, by simp, by simp [maxLen], ?_⟩⟩, below_alloc (Below.refl _ _) _⟩
  simp [madeCells, nums]
theorem within_c (A : Option Addr) (c : Nat) (xs : List Int) (x : Int) (w : World) (h : CI w A xs) (hc : xs.length ≤ c) (hm : xs.length ≤ 4611686018427387904) :
    Calls Try.prog 71 #[.slice A xs.length c, .int .i64 x] w fun e w' => e = .returned (.bool (decide (x ∈ xs))) ∧ w' = w := by
  have HR := Aside0.mk h
  clear h
  go_enter Try.func71, Try.ntmps71
  go_wp2
  go_loopw [9] (fun i wr => ∃ m : Nat, Value.int .i64 (m : Int) = i ∧ m ≤ xs.length ∧ wr = w ∧ Aside0 (∀ j (hj : j < xs.length), j < m → xs[j] ≠ x)) (fun i _ => xs.length - (intOf i).toNat)
  case atStart => exact ⟨0, rfl, by omega, rfl, ⟨fun j hj h => by omega⟩⟩
  case round =>
    obtain ⟨m, rfl, hml, rfl, HG⟩ := hrel
    by_cases hlt : m < xs.length
    · obtain ⟨ad, e, hcell⟩ := Kd.at_int HR.out (m : Int) (by omega) (by omega)
      cases e
      rw [rd_at _ _ hlt] at hcell
      obtain ⟨y, hy⟩ : ∃ y, y = xs[m] := ⟨_, rfl⟩
      rw [← hy] at hcell
      simp only [Int.toNat_natCast] at hcell
      by_cases hge : y = x
      · have HE : Aside0 (decide (x ∈ xs) = true) := ⟨decide_eq_true (by rw [← hge, hy]; exact List.getElem_mem _)⟩
        have hb : (y == x) = true := beq_iff_eq.2 hge
        clear hy hge HR
        go_wp2
        go_ret
        exact ⟨by rw [HE.out]; rfl, rfl⟩
      · have HG2 : Aside0 (∀ j (hj : j < xs.length), j < m + 1 → xs[j] ≠ x) := ⟨fun j hj h => by
          by_cases e : j < m
          · exact HG.out j hj e
          · obtain rfl : j = m := by omega
            rw [← hy]; exact hge⟩
        have hb : (y == x) = false := beq_eq_false_iff_ne.2 hge
        clear hy hge HR
        go_wp2
        go_roundw
        case rel => exact ⟨m + 1, by go_num, by omega, by first | rfl | trivial, ⟨fun j hj h => HG2.out j hj h⟩⟩
        case measure => simp [intOf]; omega
    · have HE : Aside0 (decide (x ∈ xs) = false) := ⟨decide_eq_false (fun h => by
        obtain ⟨j, hj, e⟩ := List.mem_iff_getElem.1 h
        exact HG.out j hj (by omega) e)⟩
      clear HR HG
      go_wp2
      go_ret
      exact ⟨by rw [HE.out]; rfl, rfl⟩
theorem in_c (x : Int) (B : Nat) (A : Option Addr) (c : Nat) (xs : List Int) (w : World) (hB : w.cell? ⟨B, 2, none⟩ = some (.slice A xs.length c)) (h : CI w A xs) (hc : xs.length ≤ c) (hm : xs.length ≤ 4611686018427387904) :
    Calls Try.prog 70 #[.int .i64 x, .pointer (some ⟨B, 0, none⟩)] w fun e w' => e = .returned (.bool (decide (x ∈ xs))) ∧ w' = w := by
  have C := Aside0.mk (within_c A c xs x w h hc hm)
  clear h
  go_enter Try.func70, Try.ntmps70
  go_wp2_with (go_at_call 71; refine C.out.mono ?_; rintro e w1 ⟨rfl, rfl⟩)
  go_ret
  exact ⟨rfl, rfl⟩
theorem add_c (x n : Int) (B : Nat) (w : World) (hB : w.cell? ⟨B, 1, none⟩ = some (.int .i64 n)) :
    Calls Try.prog 73 #[.int .i64 x, .pointer (some ⟨B, 0, none⟩)] w fun e w' => e = .returned (.int .i64 (wrap64 (x + n))) ∧ w' = w := by
  go_enter Try.func73, Try.ntmps73
  go_wp2
  go_ret
  exact ⟨by first | rfl | (simp [wrap64]; done), rfl⟩
theorem lit_ci (W : World) (x : Int) : CI (W.alloc (.cells #[.int .i64 x] 3)) (some ⟨W.heap.size, 0, none⟩) [x] := by
  have h : Own (W.alloc (.cells #[.int .i64 x] 3)) 0 (.slice (some ⟨W.heap.size, 0, none⟩) 1 1) [x] := own_lit W 0 3 .i64 [x] (Nat.zero_le _) (by simp)
  obtain ⟨A, c, e, hc, hr⟩ := h.slice
  cases e
  exact hr
theorem neqnil : ∀ (w : World) (a : Option Addr) (n c : Nat), (binOp .neq 113 (.slice a n c) (.slice none 0 0)).run Try.prog w = .ok (.bool (!a.isNone)) w := fun w a n c => run_neq_slice_nil_any w 113 3 a n c 0 0 Try.underlying113
theorem clone_c (A : Option Addr) (c : Nat) (xs : List Int) (w : World) (h : CI w A xs) (hc : xs.length ≤ c) (hl : xs.length ≤ 4294967296) :
    Calls Try.prog 68 #[.slice A xs.length c] w fun e w' => ∃ v, e = .returned v ∧ Own w' w.heap.size v xs ∧ Below w.heap.size w w' := by
  have HR := Aside0.mk h
  clear h
  have hne := neqnil
  cases A with
  | none =>
    obtain rfl := nil_of HR.out
    clear HR
    go_enter Try.func68, Try.ntmps68
    go_wp2_with (go_at_call 42; refine (new_c _).mono ?_; rintro e w1 ⟨v, rfl, ho, hb⟩; have HO := Aside0.mk ho; have HB := Aside0.mk hb; clear ho hb)
    go_ret
    exact ⟨_, rfl, HO.out, HB.out⟩
  | some ad =>
    go_enter Try.func68, Try.ntmps68
    go_wp2_with (first
      | (go_at_call 42; refine (new_c _).mono ?_; rintro e w1 ⟨v, rfl, ho, hb⟩; have HO := Aside0.mk ho; have HB := Aside0.mk hb; clear ho hb)
      | ((with_reducible refine gate_builtin (b := .append) (xs := #[.tmp 7, .tmp 8]) rfl ?_); at_builtin; refine append_row2 (w0 := w) w.heap.size rfl (.tmp 7) (.tmp 8) 113 113 3 .i64 8 rfl Try.underlying113 Try.underlying113 info3 (by decide) v [] xs (some ad) xs.length c rfl rfl HO.out (Kd.C_below HR.out HB.out) HB.out HB.out.size (by simp; omega) ?_; intro v1 w2 ho hbl hg hat; have HO1 := Aside0.mk ho; have HB1 := Aside0.mk hbl; clear ho hbl hg hat))
    go_ret
    exact ⟨_, rfl, HO1.out, HB1.out⟩
def keepIn (vals xs : List Int) : List Int := xs.filter fun x => decide (x ∈ vals)
theorem keep_step (vals xs : List Int) (m : Nat) (h : m < xs.length) : keepIn vals (xs.take (m + 1)) = keepIn vals (xs.take m) ++ (if xs[m] ∈ vals then [xs[m]] else []) := by
  unfold keepIn
  rw [List.take_succ_eq_append_getElem h, List.filter_append]
  congr 1
  by_cases hh : xs[m] ∈ vals <;> simp [hh]
theorem keep_len (vals xs : List Int) (m : Nat) : (keepIn vals (xs.take m)).length ≤ m := by
  have h1 := List.length_filter_le (fun x => decide (x ∈ vals)) (xs.take m)
  rw [List.length_take] at h1
  unfold keepIn
  omega
set_option maxHeartbeats 2000000 in
theorem filter_c (A : Option Addr) (c : Nat) (xs : List Int) (B : Nat) (A2 : Option Addr) (c2 : Nat) (vals : List Int) (w : World) (h : CI w A xs) (hc : xs.length ≤ c) (hl : xs.length ≤ 4294967296)
    (hB : w.cell? ⟨B, 2, none⟩ = some (.slice A2 vals.length c2)) (hv : CI w A2 vals) (hvc : vals.length ≤ c2) (hvl : vals.length ≤ 4294967296) :
    Calls Try.prog 69 #[.slice A xs.length c, .func (.func 70) #[] #[.pointer (some ⟨B, 0, none⟩)]] w fun e w' => ∃ v, e = .returned v ∧ Own w' w.heap.size v (keepIn vals xs) ∧ Below w.heap.size w w' := by
  have HR := Aside0.mk h
  have HB := Aside0.mk hB
  have HV := Aside0.mk hv
  clear h hB hv
  go_enter Try.func69, Try.ntmps69
  go_wp2_with (go_at_call 42; refine (new_c _).mono ?_; rintro e w1 ⟨v, rfl, ho, hb⟩; have HO := Aside0.mk (And.intro ho hb); clear ho hb)
  go_loopw [11, 5] (fun i v wr => ∃ (m : Nat) (u : Value), Value.int .i64 (m : Int) = i ∧ u = v ∧ m ≤ xs.length ∧ Aside0 (Own wr w.heap.size u (keepIn vals (xs.take m)) ∧ Below w.heap.size w wr)) (fun i _ _ => xs.length - (intOf i).toNat)
  case atStart => exact ⟨0, _, rfl, rfl, by omega, HO⟩
  case round =>
    obtain ⟨m, u, rfl, rfl, hml, HS⟩ := hrel
    by_cases hlt : m < xs.length
    · obtain ⟨ad, e, hcell⟩ := Kd.at_int (Kd.C_below HR.out HS.out.2) (m : Int) (by omega) (by omega)
      cases e
      rw [rd_at _ _ hlt] at hcell
      obtain ⟨x, hx⟩ : ∃ x, x = xs[m] := ⟨_, rfl⟩
      rw [← hx] at hcell
      simp only [Int.toNat_natCast] at hcell
      have C := Aside0.mk (in_c x B A2 c2 vals wr (pw_cell_below HS.out.2 HB.out) (Kd.C_below HV.out HS.out.2) hvc (by omega))
      have HST := keep_step vals xs m hlt
      rw [← hx] at HST
      by_cases hin : x ∈ vals
      · rw [decide_eq_true hin] at C
        rw [if_pos hin] at HST
        have HST2 := Aside0.mk HST
        have AP := fun c => Aside0.mk (append_c w.heap.size w (wr.alloc (.cells #[.int .i64 x] 3)) u (keepIn vals (xs.take m)) [x] (some ⟨wr.heap.size, 0, none⟩) c (pw_own_below HS.out.1 (below_alloc (Below.refl _ _) _)) (lit_ci wr x) (below_alloc HS.out.2 _) (by rw [World.size_alloc]; have := HS.out.2.size; omega) (by have := keep_len vals xs m; simp; omega))
        rw [← HST] at AP
        simp only [List.length_cons, List.length_nil] at AP
        clear hx hin HST HO HS
        go_wp2_with (first
          | (go_at_call 70; refine C.out.mono ?_; rintro e w1 ⟨rfl, rfl⟩)
          | (go_at_call 66; refine (AP _).out.mono ?_; rintro e w2 ⟨v1, rfl, ho, hb, hg, hat⟩; have HO1 := Aside0.mk (And.intro ho hb); clear ho hb hg hat))
        go_roundw
        case rel => exact ⟨m + 1, _, by go_num, rfl, by omega, HO1⟩
        case measure => simp [intOf]; omega
      · rw [decide_eq_false hin] at C
        rw [if_neg hin, List.append_nil] at HST
        have HS2 := HS
        rw [← HST] at HS2
        clear hx hin HST HO HS
        go_wp2_with (first
          | (go_at_call 70; refine C.out.mono ?_; rintro e w1 ⟨rfl, rfl⟩))
        go_roundw
        case rel => exact ⟨m + 1, _, by go_num, rfl, by omega, HS2⟩
        case measure => simp [intOf]; omega
    · have HE := HS
      rw [List.take_of_length_le (by omega)] at HE
      clear HS HO
      go_wp2
      go_ret
      exact ⟨_, rfl, HE.out.1, HE.out.2⟩
def plusN (n : Int) (xs : List Int) : List Int := xs.map fun x => wrap64 (x + n)
theorem plus_step (n : Int) (xs : List Int) (m : Nat) (h : m < xs.length) : plusN n (xs.take (m + 1)) = plusN n (xs.take m) ++ [wrap64 (xs[m] + n)] := by
  unfold plusN
  rw [List.take_succ_eq_append_getElem h, List.map_append]
  rfl
theorem plus_len (n : Int) (xs : List Int) (m : Nat) : (plusN n (xs.take m)).length ≤ m := by
  unfold plusN
  rw [List.length_map, List.length_take]
  omega
set_option maxHeartbeats 2000000 in
theorem map_c (A : Option Addr) (c : Nat) (xs : List Int) (B : Nat) (n : Int) (w : World) (h : CI w A xs) (hc : xs.length ≤ c) (hl : xs.length ≤ 4294967296) (hB : w.cell? ⟨B, 1, none⟩ = some (.int .i64 n)) :
    Calls Try.prog 72 #[.slice A xs.length c, .func (.func 73) #[] #[.pointer (some ⟨B, 0, none⟩)]] w fun e w' => ∃ v, e = .returned v ∧ Own w' w.heap.size v (plusN n xs) ∧ Below w.heap.size w w' := by
  have HR := Aside0.mk h
  have HB := Aside0.mk hB
  clear h hB
  go_enter Try.func72, Try.ntmps72
  go_wp2_with (go_at_call 42; refine (new_c _).mono ?_; rintro e w1 ⟨v, rfl, ho, hb⟩; have HO := Aside0.mk (And.intro ho hb); clear ho hb)
  go_loopw [11, 5] (fun i v wr => ∃ (m : Nat) (u : Value), Value.int .i64 (m : Int) = i ∧ u = v ∧ m ≤ xs.length ∧ Aside0 (Own wr w.heap.size u (plusN n (xs.take m)) ∧ Below w.heap.size w wr)) (fun i _ _ => xs.length - (intOf i).toNat)
  case atStart => exact ⟨0, _, rfl, rfl, by omega, HO⟩
  case round =>
    obtain ⟨m, u, rfl, rfl, hml, HS⟩ := hrel
    by_cases hlt : m < xs.length
    · obtain ⟨ad, e, hcell⟩ := Kd.at_int (Kd.C_below HR.out HS.out.2) (m : Int) (by omega) (by omega)
      cases e
      rw [rd_at _ _ hlt] at hcell
      obtain ⟨x, hx⟩ : ∃ x, x = xs[m] := ⟨_, rfl⟩
      rw [← hx] at hcell
      simp only [Int.toNat_natCast] at hcell
      have HST := plus_step n xs m hlt
      rw [← hx] at HST
      obtain ⟨y, hy⟩ : ∃ y, y = wrap64 (x + n) := ⟨_, rfl⟩
      have C := Aside0.mk (add_c x n B wr (pw_cell_below HS.out.2 HB.out))
      rw [← hy] at C HST
      have AP := fun c => Aside0.mk (append_c w.heap.size w (wr.alloc (.cells #[.int .i64 y] 3)) u (plusN n (xs.take m)) [y] (some ⟨wr.heap.size, 0, none⟩) c (pw_own_below HS.out.1 (below_alloc (Below.refl _ _) _)) (lit_ci wr y) (below_alloc HS.out.2 _) (by rw [World.size_alloc]; have := HS.out.2.size; omega) (by have := plus_len n xs m; simp; omega))
      rw [← HST] at AP
      simp only [List.length_cons, List.length_nil] at AP
      clear hx hy HST HO HS
      go_wp2_with (first
        | (go_at_call 73; refine C.out.mono ?_; rintro e w1 ⟨rfl, rfl⟩)
        | (go_at_call 66; refine (AP _).out.mono ?_; rintro e w2 ⟨v1, rfl, ho, hb, hg, hat⟩; have HO1 := Aside0.mk (And.intro ho hb); clear ho hb hg hat))
      go_roundw
      case rel => exact ⟨m + 1, _, by go_num, rfl, by omega, HO1⟩
      case measure => simp [intOf]; omega
    · have HE := HS
      rw [List.take_of_length_le (by omega)] at HE
      clear HS HO
      go_wp2
      go_ret
      exact ⟨_, rfl, HE.out.1, HE.out.2⟩
end Go.Proofs.Ytapbnbinoakbhaa.SlcM
