/-
  Proved: what text.ProcessCRLF returns on ASCII texts. Conditions: ASCII, at most 1000 bytes.
-/
import Derived.Test.YtjoagjkmghmnnaaCrlfC
import Derived.Test.YtjoagjkmghmnnaaShelf
import Derived.BigCall
import Derived.RegionTactic
import Derived.BigRegion
namespace Go.Proofs.Ytjoagjkmghmnnaa.CrlfW
open Go.RowKit Go.Proofs.YtjoagjkmghmnnaaW.PrintWords Go.Proofs.YtjoagjkmghmnnaaW.PrintLast Go.Proofs.Ytjoagjkmghmnnaa.Common Go.Proofs.Ytjoagjkmghmnnaa.Crlf Go.Proofs.Ytjoagjkmghmnnaa.TxRet Go.Proofs.Ytjoagjkmghmnnaa.CrlfC
set_option linter.unusedVariables false
set_option linter.unusedSimpArgs false

theorem parts_len (c : UInt8) : ∀ l : List UInt8, (partsOf c l).length ≤ l.length + 1
  | [] => by simp [partsOf]
  | d :: t => by
    have ih := parts_len c t
    rw [partsOf]
    split
    · simp; omega
    · split
      · simp
      · rename_i h; rw [h] at ih; simp at ih ⊢; omega
def gl (t : ByteArray) : ByteArray := if 13 ∈ t.data.toList then ofL (ov t.data.toList) else t
theorem gl_data (y : List UInt8) : (gl (ofL y)).data.toList = if 13 ∈ y then ov y else y := by
  unfold gl
  by_cases h : 13 ∈ y
  · rw [if_pos (show 13 ∈ (ofL y).data.toList from h), if_pos h]; rfl
  · rw [if_neg (show ¬ 13 ∈ (ofL y).data.toList from h), if_neg h]; rfl
/-- the row of lines -/
structure Rows (w : World) (g n cap : Nat) (xs : List ByteArray) (wr : World) : Prop where
  row : wr.ownsRow w.heap.size 9 1 (.slice (some ⟨g, 0, none⟩) n cap) n (encs Value.string xs)
  bl : Below w.heap.size w wr
theorem part_len (c : UInt8) : ∀ (l x : List UInt8), x ∈ partsOf c l → x.length ≤ l.length
  | [], x, h => by simp [partsOf] at h; subst h; simp
  | d :: t, x, h => by
    have ih := part_len c t
    rw [partsOf] at h
    split at h
    · rcases List.mem_cons.1 h with rfl | h
      · simp
      · have := ih x h; simp; omega
    · cases hp : partsOf c t with
      | nil => exact absurd hp (partsOf_ne _ _)
      | cons a r =>
        rw [hp] at h ih
        rcases List.mem_cons.1 h with rfl | h
        · have := ih a (by simp); simp; omega
        · have := ih x (by simp [h]); simp; omega
theorem row_at {P : List ByteArray} {m : Nat} {x : ByteArray} (hx : P[m]? = some x) : ((P.take m).map gl ++ P.drop m)[m]? = some x := by
  have hlt := (List.getElem?_eq_some_iff.1 hx).1
  rw [List.getElem?_append_right (by rw [List.length_map, List.length_take]; omega), List.length_map, List.length_take, Nat.min_eq_left (by omega), Nat.sub_self, List.getElem?_drop, Nat.add_zero, hx]
theorem cell_of_rows {w wr : World} {g n cap m : Nat} {P : List ByteArray} {x : ByteArray} (h : Rows w g n cap ((P.take m).map gl ++ P.drop m) wr) (hx : P[m]? = some x) (hlt : m < P.length) : wr.cell? ⟨g, m, none⟩ = some (.string x) := by
  have hc := h.row.cells (g := g) rfl m (.string x) (by rw [encs, List.getElem?_map, row_at hx]; rfl)
  rwa [add_plain] at hc
theorem step_skip {P : List ByteArray} {m : Nat} {x : ByteArray} (hx : P[m]? = some x) (h13 : ¬ 13 ∈ x.data.toList) : (P.take (m + 1)).map gl ++ P.drop (m + 1) = (P.take m).map gl ++ P.drop m := by
  obtain ⟨hlt, hxe⟩ := List.getElem?_eq_some_iff.1 hx
  rw [List.take_succ_eq_append_getElem hlt, List.drop_eq_getElem_cons hlt, List.map_append, hxe]
  simp [gl, h13]
theorem step_set {P : List ByteArray} {m : Nat} {x : ByteArray} (hx : P[m]? = some x) (h13 : 13 ∈ x.data.toList) : (P.take (m + 1)).map gl ++ P.drop (m + 1) = ((P.take m).map gl ++ P.drop m).set m (ofL (ov x.data.toList)) := by
  obtain ⟨hlt, hxe⟩ := List.getElem?_eq_some_iff.1 hx
  have hl : ((P.take m).map gl).length = m := by rw [List.length_map, List.length_take]; omega
  rw [List.set_append_right _ _ (by omega), hl, Nat.sub_self, List.take_succ_eq_append_getElem hlt, List.drop_eq_getElem_cons hlt, List.map_append, hxe]
  simp [gl, h13]
/-- inside a line: the line's runes, what is written so far -/
structure In (w : World) (g n cap : Nat) (xs : List ByteArray) (g6 : Nat) (line : List UInt8) (v7 : Value) (l : List UInt8) (wr : World) : Prop where
  rows : Rows w g n cap xs wr
  h6 : ∃ X : Array Value, wr.heap[g6]? = some (.cells X 21 (0, 0)) ∧ ∀ j (h : j < line.length), X[j]? = some (.int .i32 ((line[j]).toNat : Int))
  b6 : w.heap.size ≤ g6
  r7 : wr.ownsRow w.heap.size 21 1 v7 (ofBs l).length (nums .i32 (ofBs l))
  o7 : some g6 ≠ v7.ownBlock
theorem In.start {w wr W : World} {g n cap g6 g7 : Nat} {xs : List ByteArray} {line : List UInt8} {X : Array Value} (h : Rows w g n cap xs wr) (hb : Below wr.heap.size wr W)
    (h6 : W.heap[g6]? = some (.cells X 21 (0, 0))) (hX : ∀ j (h : j < line.length), X[j]? = some (.int .i32 ((line[j]).toNat : Int))) (h7 : W.heap[g7]? = some (.cells (madeCells #[.int .i32 0] 0) 21 (0, 0)))
    (l6 : wr.heap.size ≤ g6) (l7 : wr.heap.size ≤ g7) (hne : g6 ≠ g7) : In w g n cap xs g6 line (.slice (some ⟨g7, 0, none⟩) 0 0) [] W := by
  have hle := h.bl.size
  refine ⟨⟨pw_own_below h.row hb, below_step h.bl hb⟩, ⟨X, h6, hX⟩, by omega, ?_, by simp [Value.ownBlock, hne]⟩
  refine ⟨by simp [nums, ofBs], .inr ⟨g7, 0, _, rfl, by omega, h7, by simp [nums, ofBs], by simp [maxLen], ?_⟩⟩
  simp [madeCells, nums, ofBs]
theorem two_new (w : World) (a b : Array Value) : ((w.alloc (.cells a 21)).alloc (.cells b 21)).heap[w.heap.size]? = some (.cells a 21 (0, 0)) ∧ ((w.alloc (.cells a 21)).alloc (.cells b 21)).heap[w.heap.size + 1]? = some (.cells b 21 (0, 0)) := by
  have h2 := heap_alloc_new (w.alloc (.cells a 21)) (.cells b 21)
  rw [World.size_alloc] at h2
  refine ⟨?_, h2⟩
  have h3 := ((Below.refl (w.alloc (.cells a 21)).heap.size (w.alloc (.cells a 21))).alloc (Nat.le_refl _) (.cells b 21)).block w.heap.size (by rw [World.size_alloc]; omega)
  rw [h3]
  exact heap_alloc_new w _
theorem In.write {w wr w1 : World} {g n cap g6 : Nat} {xs : List ByteArray} {line : List UInt8} {v7 v1 : Value} {l l1 : List UInt8} (h : In w g n cap xs g6 line v7 l wr)
    (hown : w1.ownsRow w.heap.size 21 1 v1 (ofBs l1).length (nums .i32 (ofBs l1))) (hb : Below w.heap.size w w1) (hg : wr.grownBy w1 v7.ownBlock) (hat : v1.ownBlock = v7.ownBlock ∨ ∃ b, v1.ownBlock = some b ∧ wr.heap.size ≤ b) : In w g n cap xs g6 line v1 l1 w1 := by
  obtain ⟨X, hX, hXd⟩ := h.h6
  have h6lt : g6 < wr.heap.size := (Array.getElem?_eq_some_iff.1 hX).1
  refine ⟨⟨own_other h.rows.row hg (own_type_ne h.rows.row h.r7 (by decide)), hb⟩, ⟨X, (hg.block g6 h6lt h.o7).trans hX, hXd⟩, h.b6, hown, ?_⟩
  rcases hat with e | ⟨b, e, hle⟩
  · rw [e]; exact h.o7
  · rw [e]; intro e2; simp at e2; omega
theorem In.cell {w wr : World} {g n cap g6 : Nat} {xs : List ByteArray} {line : List UInt8} {v7 : Value} {l : List UInt8} (h : In w g n cap xs g6 line v7 l wr) (j : Nat) (hj : j < line.length) : wr.cell? ⟨g6, j, none⟩ = some (.int .i32 ((line[j]).toNat : Int)) := by
  obtain ⟨X, hX, hXd⟩ := h.h6
  rw [cell_of_row wr g6 j X 21 (0, 0) hX, hXd j hj]
theorem row_store {w wr : World} {g n cap i : Nat} {xs : List ByteArray} (h : Rows w g n cap xs wr) (hi : i < xs.length) (y : ByteArray) :
    ∃ u, wr.cell? ⟨g, i, none⟩ = some u ∧ wr.frozen? ⟨g, i, none⟩ = false ∧ Rows w g n cap (xs.set i y) (wr.setCell ⟨g, i, none⟩ (.string y)) := by
  have hc := h.row.cells (g := g) rfl i (.string xs[i]) (by rw [encs, List.getElem?_map, List.getElem?_eq_getElem hi]; rfl)
  rw [add_plain] at hc
  refine ⟨_, hc, ?_, ?_⟩
  · rcases h.row.2 with ⟨h', _⟩ | ⟨g', cap', cur, h', _, hh, _⟩
    · cases h'
    · have : g = g' := by injection h' with h'; injection h' with h'; injection h' with h'
      subst this
      simp [World.frozen?, hh]
  · have hs := h.row.stored i (.string y)
    have he : (encs Value.string xs).set i (.string y) = encs Value.string (xs.set i y) := by simp [encs, List.map_set]
    rw [he] at hs
    exact ⟨hs.1, h.bl.grown hs.2 h.bl.size (fun k hk => by injection hk with hk; subst hk; exact own_base h.row _ rfl)⟩
theorem over_len : ∀ (t l : List UInt8) (j : Nat), (over t l j).length ≤ l.length + t.length
  | [], l, j => by simp [over]
  | c :: t, l, j => by
    rw [over]
    split
    · have := over_len t l 0; simp; omega
    · split
      · have := over_len t (l.set j c) (j + 1); simp at this ⊢; omega
      · have := over_len t (l ++ [c]) (j + 1); simp at this ⊢; omega
theorem join_len (B : Nat) : ∀ xs : List (List UInt8), (∀ x ∈ xs, x.length ≤ B) → (Lib.join xs [10]).length ≤ xs.length * (B + 1)
  | [], _ => by simp [Lib.join_nil]
  | [x], h => by rw [Lib.join_one]; have := h x (by simp); simp; omega
  | x :: y :: r, h => by
    rw [join_two]
    have h1 := h x (by simp)
    have h2 := join_len B (y :: r) (fun z hz => h z (by simp [hz]))
    simp only [List.length_append, List.length_cons] at h2 ⊢
    rw [Nat.add_mul]
    omega
theorem join_c (P : List ByteArray) (n : Nat) (hn : P.length = n) (g cap : Nat) (t : ByteArray) (hP : P = (partsOf 10 t.data.toList).map ofL) (ht : t.size ≤ 1000) {w : World} (W : World) (h : Rows w g n cap (P.map gl) W) :
    Calls Try.prog 115 #[.slice (some ⟨g, 0, none⟩) n cap, .string ⟨#[10]⟩] W fun e w' => e = .returned (.string (ofL (Lib.join ((P.map gl).map (·.data.toList)) [10]))) ∧ Below W.heap.size W w' := by
  have hpl := parts_len 10 t.data.toList
  rw [size_l] at hpl
  have hPl : P.length ≤ 1001 := by rw [hP, List.length_map]; omega
  have hnl : (P.map gl).length = n := by rw [List.length_map, hn]
  obtain ⟨_, hcc⟩ : True ∧ n ≤ cap := ⟨trivial, by
    rcases h.row.2 with ⟨h', _⟩ | ⟨g', cap', cur, h', _, hh, hl, hm, hcu⟩
    · cases h'
    · injection h' with _ _ h3
      omega⟩
  have hlt : g < W.heap.size := own_lt h.row g rfl
  have hb : ∀ x ∈ (P.map gl).map (·.data.toList), x.length ≤ 1000 := by
    intro x hx
    rw [List.map_map] at hx
    obtain ⟨y, hy, rfl⟩ := List.mem_map.1 hx
    rw [hP] at hy
    obtain ⟨z, hz, rfl⟩ := List.mem_map.1 hy
    have h1 := part_len 10 t.data.toList z hz
    rw [size_l] at h1
    show (gl (ofL z)).data.toList.length ≤ 1000
    rw [gl_data]
    split
    · have := over_len z [] 0; simp at this; unfold ov; omega
    · omega
  have hj := join_len 1000 _ hb
  rw [List.length_map, List.length_map] at hj
  have := Try.strings_Join g 0 cap (P.map gl) ⟨#[10]⟩ W (fun j x hx => by
    have hc := h.row.cells (g := g) rfl j (.string x) (by rw [encs, List.getElem?_map, hx]; rfl)
    rw [add_plain] at hc
    rw [Nat.zero_add]
    exact hc) hlt (by omega) (by omega) (by
      have : P.length * (1000 + 1) ≤ 1001 * 1001 := Nat.mul_le_mul hPl (Nat.le_refl _)
      show (Lib.join ((P.map gl).map (·.data.toList)) [10]).length ≤ _
      omega)
  rw [hnl] at this
  exact this
theorem info32 : (Try.prog.info? 21).map (fun i => (i.zero, i.size, i.bytes)) = some (some (.int .i32 0), 1, 4) := by kernel_rfl
set_option maxHeartbeats 4000000 in
set_option maxRecDepth 1000000 in
theorem walk1 (s : ByteArray) (w : World) (hs : s.size ≤ 1000) (ha : ∀ c ∈ s.data.toList, c.toNat < 128) (h13 : 13 ∈ crlf s.data.toList)
    (hl1 : (crlf s.data.toList).length ≤ 1000) (ha1 : ∀ c ∈ crlf s.data.toList, c.toNat < 128) :
    Calls Try.prog 76 #[.string s] w fun e w' => e = .returned (.string (ofL (byLines s.data.toList))) ∧ Below w.heap.size w w' := by
  have HA := Aside0.mk ha
  have HA1 := Aside0.mk ha1
  have H13 := Aside0.mk h13
  obtain ⟨t, ht⟩ : ∃ t, t = ofL (crlf s.data.toList) := ⟨_, rfl⟩
  have hts : t.size ≤ 1000 := by rw [ht, ← size_l, ofL_data]; exact hl1
  have hc : decide (13 ∈ t.data.toList) = true := by rw [ht, ofL_data]; exact decide_eq_true h13
  have R1 := fun W => Aside0.mk (repl_c s W (by omega))
  simp only [← ht] at R1
  have R2 := fun W => Aside0.mk (cont_c t true hc W (by omega))
  obtain ⟨n, hn⟩ : ∃ n, n = (partsOf 10 t.data.toList).length := ⟨_, rfl⟩
  have hn2 : n ≤ 1001 := by rw [hn]; have := parts_len 10 t.data.toList; rw [size_l] at this; omega
  have R3 := fun W => Aside0.mk (split_n t n hn W (by omega))
  have HN := Aside0.mk hn
  have HT := Aside0.mk ht
  clear ha ha1 h13 ht hc hn
  go_enter Try.func76, Try.ntmps76
  go_wp2_with (first
    | (go_at_call 112; refine (R1 _).out.mono ?_; rintro e w1 ⟨rfl, hb⟩; have HB1 := Aside0.mk hb; clear hb)
    | (go_at_call 113; refine (R2 _).out.mono ?_; rintro e w2 ⟨rfl, ⟨nd, rfl⟩⟩)
    | (go_at_call 114; refine (R3 _).out.mono ?_; rintro e w3 ⟨g, cap, rfl, ho, hb⟩; have HO := Aside0.mk ho; have HB3 := Aside0.mk hb; clear ho hb))
  obtain ⟨P, hP⟩ : ∃ P, P = (partsOf 10 t.data.toList).map ofL := ⟨_, rfl⟩
  have hPn : P.length = n := by rw [hP, List.length_map, HN.out]
  have HR0 : Aside0 (Rows w g n cap P w3) := ⟨⟨by have := own_weaken HO.out (pw_below_drewN HB1.out nd).size; rw [← hP] at this; exact this, below_step (pw_below_drewN HB1.out nd) HB3.out⟩⟩
  have HPA : Aside0 (∀ x ∈ P, x.size ≤ 1000 ∧ ∀ c ∈ x.data.toList, c.toNat < 128) := ⟨by
    intro x hx
    rw [hP] at hx
    obtain ⟨y, hy, rfl⟩ := List.mem_map.1 hx
    have hm := parts_mem _ _ hy
    rw [ofL_data]
    refine ⟨?_, fun c hc => HA1.out c (by have := hm c hc; rw [HT.out, ofL_data] at this; exact this)⟩
    have := part_len 10 t.data.toList y hy
    rw [size_l] at this
    rw [← size_l, ofL_data]
    omega⟩
  have HPN := Aside0.mk hPn
  have HP := Aside0.mk hP
  clear hP hPn HO HB1 HB3 R1 R2 R3
  go_loopw [20] (fun c wr => ∃ m : Nat, Value.int .i64 (m : Int) = c ∧ m ≤ n ∧ Aside0 (Rows w g n cap ((P.take m).map gl ++ P.drop m) wr)) (fun c _ => n - (intOf c).toNat)
  case atStart => exact ⟨0, rfl, by omega, by simpa using HR0⟩
  case round =>
    obtain ⟨m, rfl, hm, HR⟩ := hrel
    by_cases hlt : m < n
    · obtain ⟨x, hx⟩ : ∃ x, P[m]? = some x := ⟨_, List.getElem?_eq_getElem (by rw [HPN.out]; exact hlt)⟩
      have hxm : x ∈ P := List.mem_of_getElem? hx
      have hcell := cell_of_rows HR.out hx (by rw [HPN.out]; exact hlt)
      have hxs := (HPA.out x hxm).1
      have HXA := Aside0.mk (HPA.out x hxm).2
      have HX := Aside0.mk hx
      clear hx hxm
      by_cases hx13 : 13 ∈ x.data.toList
      · have C := fun W => Aside0.mk (cont_c x true (decide_eq_true hx13) W (by omega))
        have HX13 := Aside0.mk hx13
        clear hx13
        have hmk : ∀ W : World, (Instr.makeSlice 131 (.int .i64 0) (.int .i64 0)).run Try.prog W = .ok (.slice (some ⟨W.heap.size, 0, none⟩) 0 0) (W.alloc (.cells (madeCells #[.int .i32 0] 0) 21)) := print_make 131 21 .i32 4 Try.underlying131 info32 (by decide) 0 (by omega)
        obtain ⟨capf, Xf, hcf, hXf⟩ := conv_c x HXA.out (by omega)
        have HXF := Aside0.mk hXf
        clear hXf
        go_wp2_with (first
          | (go_at_call 113; refine (C _).out.mono ?_; rintro e w2 ⟨rfl, ⟨nd, rfl⟩⟩))
        have RG := HR.out
        go_region
        · have HI : Aside0 (In w g n cap ((P.take m).map gl ++ P.drop m) (wr.heap.size) x.data.toList (.slice (some ⟨wr.heap.size + 1, 0, none⟩) 0 0) [] (((wr.drewN (nd + 1 + 1)).alloc (Obj.cells (Xf (wr.drewN (nd + 1))) 21)).alloc (Obj.cells (madeCells #[Value.int IntKind.i32 0] 0) 21))) :=
            ⟨In.start RG (by repeat (first | exact Below.refl _ _ | apply below_alloc | apply pw_below_drewN | apply below_drew)) (two_new _ _ _).1 (HXF.out _) (two_new _ _ _).2 (by omega) (by omega) (by omega)⟩
          generalize hW : (((wr.drewN (nd + 1 + 1)).alloc (Obj.cells (Xf (wr.drewN (nd + 1))) 21)).alloc (Obj.cells (madeCells #[Value.int IntKind.i32 0] 0) 21)) = W1 at HI ⊢
          generalize hc : capf (wr.drewN (nd + 1)) = c6
          generalize hv7 : (Value.slice (some ⟨wr.heap.size + 1, 0, none⟩) 0 0) = v7 at HI ⊢
          generalize hg6 : wr.heap.size = g6 at HI ⊢
          clear hW hc hg6 hv7 hmk hcf HXF
          clear HR RG hcell C
          have HLN := Aside0.mk (size_l x)
          go_wp2
          go_loopw [7, 8, 9] (fun v i at_ wi => ∃ (u7 : Value) (q j : Nat) (l : List UInt8), u7 = v ∧ Value.int .i64 (q : Int) = i ∧ Value.int .i64 (j : Int) = at_ ∧ q ≤ x.size ∧ j ≤ l.length ∧ l.length ≤ q ∧ Aside0 (In w g n cap ((P.take m).map gl ++ P.drop m) g6 x.data.toList u7 l wi) ∧ Aside0 (over (x.data.toList.drop q) l j = ov x.data.toList) ∧ Aside0 (∀ c ∈ l, c.toNat < 128)) (fun _ i _ _ => x.size - (intOf i).toNat)
          case atStart => exact ⟨_, 0, 0, [], rfl, rfl, rfl, by omega, by simp, by simp, HI, ⟨rfl⟩, ⟨by simp⟩⟩
          case round =>
            obtain ⟨v7, q, j, l, rfl, rfl, rfl, hq, hjl, hlq, HN2, HOV, HC⟩ := hrel
            by_cases hqx : q < x.size
            · have hq' : q < x.data.toList.length := by rw [HLN.out]; exact hqx
              obtain ⟨c, hc⟩ : ∃ c, c = x.data.toList[q] := ⟨_, rfl⟩
              have hcell := HN2.out.cell q hq'
              rw [← hc] at hcell
              have hcl : c.toNat < 128 := by rw [hc]; exact HXA.out _ (List.getElem_mem _)
              have hd : x.data.toList.drop q = c :: x.data.toList.drop (q + 1) := by rw [hc]; exact List.drop_eq_getElem_cons hq'
              have HOV2 := Aside0.mk HOV.out
              rw [hd] at HOV2
              have HC2 := Aside0.mk (show ∀ y ∈ l ++ [c], y.toNat < 128 from fun y hy => by
                rcases List.mem_append.1 hy with h | h
                · exact HC.out y h
                · simp at h; rw [h]; exact hcl)
              obtain ⟨r, hr⟩ : ∃ r, r = c.toNat := ⟨_, rfl⟩
              rw [← hr] at hcell
              have HRC := Aside0.mk hr
              have HL2 := Aside0.mk (ofBs_len l)
              clear hr hd hc HOV HC hq'
              obtain ⟨A, cp, rfl, _⟩ := own_reads (by have := HN2.out.r7; exact this)
              by_cases h13 : r = 13
              · subst h13
                have hc13 : c = 13 := by have := HRC.out; exact UInt8.toNat_inj.1 (by rw [← this]; rfl)
                subst hc13
                go_wp2
                go_roundw
                case rel => exact ⟨_, q + 1, 0, l, rfl, by go_num, rfl, by omega, by simp, by omega, HN2, ⟨by rw [← HOV2.out, over, if_pos rfl]⟩, ⟨fun y hy => HC2.out y (by simp [hy])⟩⟩
                case measure => simp [intOf]; omega
              · have HN3 : Aside0 (¬ c = 13) := ⟨fun e => h13 (by rw [HRC.out, e]; rfl)⟩
                have hr13 : ¬ (r : Int) = 13 := by omega
                clear h13
                by_cases hjl2 : j < l.length
                · obtain ⟨g7, cap7, e, _, _⟩ := HN2.out.r7.form (by rw [HL2.out]; omega)
                  injection e with e1 _ e3
                  subst e1
                  subst e3
                  have hown := HN2.out.r7
                  have hat := own_at hown (j : Int) (by omega) (by rw [HL2.out]; omega)
                  have hst := own_store hown (j : Int) (r : Int)
                  simp only [Int.toNat_natCast] at hat hst
                  obtain ⟨hcell7, hfr7⟩ := hat
                  have HST := Aside0.mk hst
                  have hjl3 : (j : Int) < ((ofBs l).length : Nat) := by rw [HL2.out]; omega
                  clear hst hown
                  have N : Aside0 (In w g n cap ((P.take m).map gl ++ P.drop m) g6 x.data.toList (.slice (some ⟨g7, 0, none⟩) (ofBs l).length cp) (l.set j c) (wr.setCell ⟨g7, j, none⟩ (.int .i32 r))) := ⟨HN2.out.write (by
                    have := HST.out.1
                    rw [HRC.out, ofBs_set] at this
                    rw [HRC.out, show (ofBs (l.set j c)).length = (ofBs l).length by rw [ofBs_len, ofBs_len, List.length_set]]
                    exact this) (HN2.out.rows.bl.grown HST.out.2 HN2.out.rows.bl.size (fun k hk => by injection hk with hk; subst hk; exact own_base HN2.out.r7 _ rfl)) HST.out.2 (.inl rfl)⟩
                  go_wp2
                  go_roundw
                  case rel => exact ⟨_, q + 1, j + 1, l.set j c, rfl, by go_num, by go_num, by omega, by rw [List.length_set]; omega, by rw [List.length_set]; omega, N, ⟨by rw [← HOV2.out, over, if_neg HN3.out, if_pos hjl2]⟩, ⟨fun y hy => by
                    rcases List.mem_or_eq_of_mem_set hy with h | h
                    · exact HC2.out y (by simp [h])
                    · exact HC2.out y (by simp [h])⟩⟩
                  case measure => simp [intOf]; omega
                · have hjl3 : ¬ (j : Int) < ((ofBs l).length : Nat) := by rw [HL2.out]; omega
                  go_wp2_with (first
                    | ((with_reducible refine gate_builtin (b := .append) (xs := #[.tmp 53, .tmp 58]) rfl ?_); at_builtin; refine print_append_num (w0 := w) w.heap.size rfl (.tmp 53) (.tmp 58) 131 21 .i32 4 rfl Try.underlying131 info32 (by decide) (.slice A (ofBs l).length cp) (ofBs l) r rfl rfl HN2.out.r7 HN2.out.rows.bl HN2.out.rows.bl.size (by rw [HL2.out]; omega) ?_; intro v1 w1 ho hb hg hat; have HO1 := Aside0.mk ho; have HB1 := Aside0.mk hb; have HG1 := Aside0.mk hg; have HT1 := Aside0.mk hat; clear ho hb hg hat))
                  have N : Aside0 (In w g n cap ((P.take m).map gl ++ P.drop m) g6 x.data.toList v1 (l ++ [c]) w1) := ⟨HN2.out.write (by
                    have := HO1.out
                    rw [HRC.out] at this
                    rw [ofBs_app]
                    exact this) HB1.out HG1.out HT1.out⟩
                  go_roundw
                  case rel => exact ⟨_, q + 1, j + 1, l ++ [c], rfl, by go_num, by go_num, by omega, by simp; omega, by simp; omega, N, ⟨by rw [← HOV2.out, over, if_neg HN3.out, if_neg hjl2]⟩, ⟨HC2.out⟩⟩
                  case measure => simp [intOf]; omega
            · have hend : l = ov x.data.toList := by rw [← HOV.out, List.drop_eq_nil_of_le (by rw [HLN.out]; omega), over]
              have hcv := own_runes (P := Try.prog) Try.underlying131 Try.underlying21 Try.underlying9 HN2.out.r7
              rw [runesBytes_ascii _ HC.out] at hcv
              have hst := row_store HN2.out.rows (i := m) (by simp; rw [HPN.out]; omega) (ofL l)
              obtain ⟨u, hcell, hfr, hst⟩ := hst
              have N : Aside0 (Rows w g n cap ((P.take (m + 1)).map gl ++ P.drop (m + 1)) (wr.setCell ⟨g, m, none⟩ (.string (ofL l)))) := ⟨by rw [step_set HX.out HX13.out, ← hend]; exact hst⟩
              clear hst hend
              go_wp2
              go_roundw
              case rel => exact ⟨m + 1, by go_num, by omega, N⟩
              case measure => simp [intOf]; omega
        · have HI : Aside0 (In w g n cap ((P.take m).map gl ++ P.drop m) (wr.heap.size + 1) x.data.toList (.slice (some ⟨wr.heap.size, 0, none⟩) 0 0) [] ((((wr.drewN (nd + 1)).alloc (Obj.cells (madeCells #[Value.int IntKind.i32 0] 0) 21)).alloc (Obj.cells (Xf ((wr.drewN (nd + 1)).alloc (Obj.cells (madeCells #[Value.int IntKind.i32 0] 0) 21))) 21)).drew)) :=
            ⟨In.start RG (by repeat (first | exact Below.refl _ _ | apply below_alloc | apply pw_below_drewN | apply below_drew)) (two_new _ _ _).2 (HXF.out _) (two_new _ _ _).1 (by omega) (by omega) (by omega)⟩
          generalize hW : ((((wr.drewN (nd + 1)).alloc (Obj.cells (madeCells #[Value.int IntKind.i32 0] 0) 21)).alloc (Obj.cells (Xf ((wr.drewN (nd + 1)).alloc (Obj.cells (madeCells #[Value.int IntKind.i32 0] 0) 21))) 21)).drew) = W1 at HI ⊢
          generalize hc : capf ((wr.drewN (nd + 1)).alloc (Obj.cells (madeCells #[Value.int IntKind.i32 0] 0) 21)) = c6
          generalize hv7 : (Value.slice (some ⟨wr.heap.size, 0, none⟩) 0 0) = v7 at HI ⊢
          generalize hg6 : wr.heap.size + 1 = g6 at HI ⊢
          clear hW hc hg6 hv7 hmk hcf HXF
          clear HR RG hcell C
          have HLN := Aside0.mk (size_l x)
          go_wp2
          go_loopw [7, 8, 9] (fun v i at_ wi => ∃ (u7 : Value) (q j : Nat) (l : List UInt8), u7 = v ∧ Value.int .i64 (q : Int) = i ∧ Value.int .i64 (j : Int) = at_ ∧ q ≤ x.size ∧ j ≤ l.length ∧ l.length ≤ q ∧ Aside0 (In w g n cap ((P.take m).map gl ++ P.drop m) g6 x.data.toList u7 l wi) ∧ Aside0 (over (x.data.toList.drop q) l j = ov x.data.toList) ∧ Aside0 (∀ c ∈ l, c.toNat < 128)) (fun _ i _ _ => x.size - (intOf i).toNat)
          case atStart => exact ⟨_, 0, 0, [], rfl, rfl, rfl, by omega, by simp, by simp, HI, ⟨rfl⟩, ⟨by simp⟩⟩
          case round =>
            obtain ⟨v7, q, j, l, rfl, rfl, rfl, hq, hjl, hlq, HN2, HOV, HC⟩ := hrel
            by_cases hqx : q < x.size
            · have hq' : q < x.data.toList.length := by rw [HLN.out]; exact hqx
              obtain ⟨c, hc⟩ : ∃ c, c = x.data.toList[q] := ⟨_, rfl⟩
              have hcell := HN2.out.cell q hq'
              rw [← hc] at hcell
              have hcl : c.toNat < 128 := by rw [hc]; exact HXA.out _ (List.getElem_mem _)
              have hd : x.data.toList.drop q = c :: x.data.toList.drop (q + 1) := by rw [hc]; exact List.drop_eq_getElem_cons hq'
              have HOV2 := Aside0.mk HOV.out
              rw [hd] at HOV2
              have HC2 := Aside0.mk (show ∀ y ∈ l ++ [c], y.toNat < 128 from fun y hy => by
                rcases List.mem_append.1 hy with h | h
                · exact HC.out y h
                · simp at h; rw [h]; exact hcl)
              obtain ⟨r, hr⟩ : ∃ r, r = c.toNat := ⟨_, rfl⟩
              rw [← hr] at hcell
              have HRC := Aside0.mk hr
              have HL2 := Aside0.mk (ofBs_len l)
              clear hr hd hc HOV HC hq'
              obtain ⟨A, cp, rfl, _⟩ := own_reads (by have := HN2.out.r7; exact this)
              by_cases h13 : r = 13
              · subst h13
                have hc13 : c = 13 := by have := HRC.out; exact UInt8.toNat_inj.1 (by rw [← this]; rfl)
                subst hc13
                go_wp2
                go_roundw
                case rel => exact ⟨_, q + 1, 0, l, rfl, by go_num, rfl, by omega, by simp, by omega, HN2, ⟨by rw [← HOV2.out, over, if_pos rfl]⟩, ⟨fun y hy => HC2.out y (by simp [hy])⟩⟩
                case measure => simp [intOf]; omega
              · have HN3 : Aside0 (¬ c = 13) := ⟨fun e => h13 (by rw [HRC.out, e]; rfl)⟩
                have hr13 : ¬ (r : Int) = 13 := by omega
                clear h13
                by_cases hjl2 : j < l.length
                · obtain ⟨g7, cap7, e, _, _⟩ := HN2.out.r7.form (by rw [HL2.out]; omega)
                  injection e with e1 _ e3
                  subst e1
                  subst e3
                  have hown := HN2.out.r7
                  have hat := own_at hown (j : Int) (by omega) (by rw [HL2.out]; omega)
                  have hst := own_store hown (j : Int) (r : Int)
                  simp only [Int.toNat_natCast] at hat hst
                  obtain ⟨hcell7, hfr7⟩ := hat
                  have HST := Aside0.mk hst
                  have hjl3 : (j : Int) < ((ofBs l).length : Nat) := by rw [HL2.out]; omega
                  clear hst hown
                  have N : Aside0 (In w g n cap ((P.take m).map gl ++ P.drop m) g6 x.data.toList (.slice (some ⟨g7, 0, none⟩) (ofBs l).length cp) (l.set j c) (wr.setCell ⟨g7, j, none⟩ (.int .i32 r))) := ⟨HN2.out.write (by
                    have := HST.out.1
                    rw [HRC.out, ofBs_set] at this
                    rw [HRC.out, show (ofBs (l.set j c)).length = (ofBs l).length by rw [ofBs_len, ofBs_len, List.length_set]]
                    exact this) (HN2.out.rows.bl.grown HST.out.2 HN2.out.rows.bl.size (fun k hk => by injection hk with hk; subst hk; exact own_base HN2.out.r7 _ rfl)) HST.out.2 (.inl rfl)⟩
                  go_wp2
                  go_roundw
                  case rel => exact ⟨_, q + 1, j + 1, l.set j c, rfl, by go_num, by go_num, by omega, by rw [List.length_set]; omega, by rw [List.length_set]; omega, N, ⟨by rw [← HOV2.out, over, if_neg HN3.out, if_pos hjl2]⟩, ⟨fun y hy => by
                    rcases List.mem_or_eq_of_mem_set hy with h | h
                    · exact HC2.out y (by simp [h])
                    · exact HC2.out y (by simp [h])⟩⟩
                  case measure => simp [intOf]; omega
                · have hjl3 : ¬ (j : Int) < ((ofBs l).length : Nat) := by rw [HL2.out]; omega
                  go_wp2_with (first
                    | ((with_reducible refine gate_builtin (b := .append) (xs := #[.tmp 53, .tmp 58]) rfl ?_); at_builtin; refine print_append_num (w0 := w) w.heap.size rfl (.tmp 53) (.tmp 58) 131 21 .i32 4 rfl Try.underlying131 info32 (by decide) (.slice A (ofBs l).length cp) (ofBs l) r rfl rfl HN2.out.r7 HN2.out.rows.bl HN2.out.rows.bl.size (by rw [HL2.out]; omega) ?_; intro v1 w1 ho hb hg hat; have HO1 := Aside0.mk ho; have HB1 := Aside0.mk hb; have HG1 := Aside0.mk hg; have HT1 := Aside0.mk hat; clear ho hb hg hat))
                  have N : Aside0 (In w g n cap ((P.take m).map gl ++ P.drop m) g6 x.data.toList v1 (l ++ [c]) w1) := ⟨HN2.out.write (by
                    have := HO1.out
                    rw [HRC.out] at this
                    rw [ofBs_app]
                    exact this) HB1.out HG1.out HT1.out⟩
                  go_roundw
                  case rel => exact ⟨_, q + 1, j + 1, l ++ [c], rfl, by go_num, by go_num, by omega, by simp; omega, by simp; omega, N, ⟨by rw [← HOV2.out, over, if_neg HN3.out, if_neg hjl2]⟩, ⟨HC2.out⟩⟩
                  case measure => simp [intOf]; omega
            · have hend : l = ov x.data.toList := by rw [← HOV.out, List.drop_eq_nil_of_le (by rw [HLN.out]; omega), over]
              have hcv := own_runes (P := Try.prog) Try.underlying131 Try.underlying21 Try.underlying9 HN2.out.r7
              rw [runesBytes_ascii _ HC.out] at hcv
              have hst := row_store HN2.out.rows (i := m) (by simp; rw [HPN.out]; omega) (ofL l)
              obtain ⟨u, hcell, hfr, hst⟩ := hst
              have N : Aside0 (Rows w g n cap ((P.take (m + 1)).map gl ++ P.drop (m + 1)) (wr.setCell ⟨g, m, none⟩ (.string (ofL l)))) := ⟨by rw [step_set HX.out HX13.out, ← hend]; exact hst⟩
              clear hst hend
              go_wp2
              go_roundw
              case rel => exact ⟨m + 1, by go_num, by omega, N⟩
              case measure => simp [intOf]; omega
      · have C := fun W => Aside0.mk (cont_c x false (decide_eq_false hx13) W (by omega))
        have HX13 := Aside0.mk hx13
        clear hx13
        go_wp2_with (first
          | (go_at_call 113; refine (C _).out.mono ?_; rintro e w2 ⟨rfl, ⟨nd, rfl⟩⟩))
        go_roundw
        case rel => exact ⟨m + 1, by go_num, by omega, ⟨by rw [step_skip HX.out HX13.out]; exact ⟨HR.out.row, pw_below_drewN HR.out.bl nd⟩⟩⟩
        case measure => simp [intOf]; omega
    · obtain rfl : m = n := by omega
      have hrows := HR.out
      rw [List.take_of_length_le (by rw [HPN.out]; exact Nat.le_refl _), List.drop_eq_nil_of_le (by rw [HPN.out]; exact Nat.le_refl _), List.append_nil] at hrows
      have HJ := fun (W : World) (h : Rows w g m cap (P.map gl) W) => Aside0.mk (join_c P m HPN.out g cap t HP.out (by omega) W h)
      have HRW := Aside0.mk hrows
      have HFIN : Aside0 (Lib.join ((P.map gl).map (·.data.toList)) [10] = byLines s.data.toList) := ⟨by
        rw [HP.out, byLines, if_pos H13.out, List.map_map, List.map_map]
        congr 1
        rw [HT.out, ofL_data]
        refine List.map_congr_left fun y _ => ?_
        exact gl_data y⟩
      go_wp2_with (go_at_call 115; refine (HJ _ HRW.out).out.mono ?_; rintro e w9 ⟨rfl, hb⟩; have HB9 := Aside0.mk hb; clear hb)
      go_ret
      have hfin := HFIN.out
      rw [List.map_map] at hfin
      exact ⟨by rw [hfin]; rfl, below_step HRW.out.bl HB9.out⟩
set_option maxHeartbeats 4000000 in
set_option maxRecDepth 1000000 in
theorem walk0 (s : ByteArray) (w : World) (hs : s.size ≤ 1000) (h13 : ¬ 13 ∈ crlf s.data.toList) (hl1 : (crlf s.data.toList).length ≤ 1000) :
    Calls Try.prog 76 #[.string s] w fun e w' => e = .returned (.string (ofL (byLines s.data.toList))) ∧ Below w.heap.size w w' := by
  have H13 := Aside0.mk h13
  obtain ⟨t, ht⟩ : ∃ t, t = ofL (crlf s.data.toList) := ⟨_, rfl⟩
  have hts : t.size ≤ 1000 := by rw [ht, ← size_l, ofL_data]; exact hl1
  have hc : decide (13 ∈ t.data.toList) = false := by rw [ht, ofL_data]; exact decide_eq_false h13
  have R1 := fun W => Aside0.mk (repl_c s W (by omega))
  simp only [← ht] at R1
  have R2 := fun W => Aside0.mk (cont_c t false hc W (by omega))
  have HT := Aside0.mk ht
  clear h13 ht hc
  go_enter Try.func76, Try.ntmps76
  go_wp2_with (first
    | (go_at_call 112; refine (R1 _).out.mono ?_; rintro e w1 ⟨rfl, hb⟩; have HB1 := Aside0.mk hb; clear hb)
    | (go_at_call 113; refine (R2 _).out.mono ?_; rintro e w2 ⟨rfl, ⟨nd, rfl⟩⟩))
  go_ret
  exact ⟨by rw [byLines, if_neg H13.out, ← HT.out]; rfl, pw_below_drewN HB1.out nd⟩
theorem crlf_mem : ∀ (m : Nat) (l : List UInt8), l.length ≤ m → (crlf l).length ≤ l.length ∧ ∀ c ∈ crlf l, c = 10 ∨ c ∈ l
  | _, [], _ => by rw [crlf]; simp
  | 0, c :: t, hm => by simp at hm
  | m + 1, c :: t, hm => by
    simp only [List.length_cons] at hm
    rw [crlf]
    split
    · have ih := crlf_mem m t.tail (by rw [List.length_tail]; omega)
      rw [List.length_tail] at ih
      refine ⟨by simp only [List.length_cons]; omega, fun x hx => ?_⟩
      rcases List.mem_cons.1 hx with h | h
      · exact .inl h
      · rcases ih.2 x h with h | h
        · exact .inl h
        · exact .inr (List.mem_cons_of_mem _ (List.mem_of_mem_tail h))
    · have ih := crlf_mem m t (by omega)
      refine ⟨by simp only [List.length_cons]; omega, fun x hx => ?_⟩
      rcases List.mem_cons.1 hx with h | h
      · exact .inr (by simp [h])
      · rcases ih.2 x h with h | h
        · exact .inl h
        · exact .inr (List.mem_cons_of_mem _ h)
theorem process (s : ByteArray) (w : World) (hs : s.size ≤ 1000) (ha : ∀ c ∈ s.data.toList, c.toNat < 128) :
    Calls Try.prog 76 #[.string s] w fun e w' => e = .returned (.string (ofL (byLines s.data.toList))) ∧ Below w.heap.size w w' := by
  have hm := crlf_mem s.data.toList.length s.data.toList (Nat.le_refl _)
  rw [size_l] at hm
  have ha1 : ∀ c ∈ crlf s.data.toList, c.toNat < 128 := fun c hc => by
    rcases hm.2 c hc with rfl | h
    · decide
    · exact ha c h
  by_cases h13 : 13 ∈ crlf s.data.toList
  · exact walk1 s w hs ha h13 (by omega) ha1
  · exact walk0 s w hs h13 (by omega)
theorem impl_crlf (s : ByteArray) (w : World) (hs : s.size ≤ 1000) (ha : ∀ c ∈ s.data.toList, c.toNat < 128) :
    Calls Try.prog 36 #[.string s] w fun e w' => e = .returned (.string (ofL (byLines s.data.toList))) ∧ Below w.heap.size w w' := by
  have C := fun W => Aside0.mk (process s W hs ha)
  clear ha
  go_enter Try.func36, Try.ntmps36
  go_wp2_with (go_at_call 76; refine (C _).out.mono ?_; rintro e w1 ⟨rfl, hb⟩; have HB1 := Aside0.mk hb; clear hb)
  go_ret
  exact ⟨rfl, HB1.out⟩
end Go.Proofs.Ytjoagjkmghmnnaa.CrlfW
