/-
  Proved: a list in HTML written line by line is what the recursion over levels writes; the contract of impl.ListHTML. Conditions: some items, the first one at the top, each at most one deeper than the one ahead.
-/
import Derived.Test.YtphnnbbgcnilgaaHtB
import Derived.Test.YtphnnbbgcnilgaaLstI
namespace Go.Proofs.Ytphnnbbgcnilgaa.HtC
open Go.RowKit Go.Proofs.YtphnnbbgcnilgaaW.PrintWords Go.Proofs.Ytphnnbbgcnilgaa.Common Go.Proofs.Ytphnnbbgcnilgaa.LstT Go.Proofs.Ytphnnbbgcnilgaa.LstA Go.Proofs.Ytphnnbbgcnilgaa.LstB Go.Proofs.Ytphnnbbgcnilgaa.LstC Go.Proofs.Ytphnnbbgcnilgaa.LstD Go.Proofs.Ytphnnbbgcnilgaa.LstE Go.Proofs.Ytphnnbbgcnilgaa.LstI Go.Proofs.Ytphnnbbgcnilgaa.LstJ Go.Proofs.Ytphnnbbgcnilgaa.Bld Go.Proofs.Ytphnnbbgcnilgaa.HtA Go.Proofs.Ytphnnbbgcnilgaa.HtB Go.Proofs.Ytphnnbbgcnilgaa.GFnListHTML
set_option linter.unusedVariables false
set_option linter.unusedSimpArgs false
set_option maxRecDepth 1000000

theorem lc_of {B : Nat} {w0 : World} {q : Nat} {gs : List Nat} {its : List (Nat × ByteArray)} {lev : Nat} {v : Value} {w : World} (h : LS B w0 q gs its lev v w) : LC B w0 q gs its lev ⟨#[]⟩ v w := ⟨h.hq, h.row, h.el, h.len, h.bel, h.bq⟩
theorem class_c {B : Nat} {w0 : World} {q : Nat} {gs : List Nat} {its : List (Nat × ByteArray)} {lev : Nat} {v : Value} {w : World} (h : LS B w0 q gs its lev v w) (cl : ByteArray) :
    Calls Try.prog 22 #[.pointer (some ⟨q, 0, none⟩), .string cl] w fun e w' => ∃ u, e = .returned u ∧ LC B w0 q gs its lev cl v w' := by
  have HL := Aside0.mk h
  have c2 : w.cell? ⟨q, 2, none⟩ = some (.string ⟨#[]⟩) := (cell_of_row _ _ _ _ _ _ h.hq).trans rfl
  have f2 : w.frozen? ⟨q, 2, none⟩ = false := by simp [World.frozen?, h.hq]
  clear h
  go_enter Try.func22, Try.ntmps22
  go_wp2
  go_end0
  have hl := HL.out
  refine ⟨_, rfl, set_cells _ q 2 _ _ _ hl.hq, Kd.R_set hl.row hl.hq pk_ne 2 _, fun i k it h3 h4 => ?_, hl.len, hl.bel.setCell hl.bq _, hl.bq⟩
  have hk := hl.el i k it h3 h4
  exact ⟨(setCell_block _ _ _ k (typed_ne hk.1 hl.hq (by decide))).trans hk.1, hk.2⟩
theorem bw {w1 w2 W : World} {gb : Nat} (hg : gb = w1.heap.size) (hb : Below w1.heap.size w1 w2) (hW : Below gb w2 W) : Below w1.heap.size w1 W := by
  subst hg
  exact hb.trans hW
theorem _root_.Go.Proofs.Ytphnnbbgcnilgaa.HtA.HD.below {q : Nat} {gs : List Nat} {its : List (Nat × ByteArray)} {cl : ByteArray} {ad : Addr} {c : Nat} {W W1 : World} (h : HD q gs its cl ad c W) (hb : Below W.heap.size W W1) : HD q gs its cl ad c W1 :=
  ⟨pw_cell_below hb h.c2, pw_cell_below hb h.c3, fun i x hx => ⟨pw_cell_below hb (h.it i x hx).1, pw_cell_below hb (h.it i x hx).2.1, pw_cell_below hb (h.it i x hx).2.2⟩⟩
theorem hd_of {B : Nat} {w0 : World} {q qs : Nat} {gs : List Nat} {its : List (Nat × ByteArray)} {lev : Nat} {y : Sty} {vs cl : ByteArray} {ap : Nat} {ad : Addr} {c : Nat} {w : World} (h : RS B w0 q qs gs its lev y vs cl ap (.slice (some ad) gs.length c) w) : HD q gs its cl ad c w := by
  obtain ⟨c0, c1, c2, c3, _⟩ := h.cells
  refine ⟨c2, by rw [← h.len]; exact c3, fun i x hx => ?_⟩
  obtain ⟨ad2, g, c9, hv, hg, hc⟩ := h.item i (List.getElem?_eq_some_iff.1 hx).1
  injection hv with e1 _ _
  injection e1 with e1
  subst e1
  have hgd : gs.getD i 0 = g := by simp [List.getD_eq_getElem?_getD, hg]
  have h2 := h.el2 hg hx
  rw [hgd]
  exact ⟨hc, h2.1, h2.2⟩
theorem HB0 {q : Nat} {gs : List Nat} {its : List (Nat × ByteArray)} {cl : ByteArray} {ad : Addr} {c : Nat} {w1 w2 w3 : World} {gb : Nat} {X : Array Value} (hrd : HD q gs its cl ad c w1) (hg : gb = w1.heap.size) (hx : w2.heap[gb]? = some (.cells X 85 (0, 0))) (hb : Below w1.heap.size w1 w2)
    (hba : Lib.BuilderAt 85 5 gb gb (.pointer (some ⟨gb, 0, none⟩)) [] w3) (hbb : Below gb w2 w3) : HB q gs its cl ad c gb w2 [] 0 w3 :=
  ⟨fun W hW => hrd.below (bw hg hb hW), ⟨Or.inr (Lib.BuilderAtF.of hba), hbb, by simp, blk_lt hx⟩⟩
theorem rend_c {q : Nat} {gs : List Nat} {its : List (Nat × ByteArray)} {cl : ByteArray} {ad : Addr} {c : Nat} {Bb : Nat} {W0 W : World} {acc : List UInt8} {m : Nat} (p : Value) (h : HB q gs its cl ad c Bb W0 acc m W) : Calls Try.prog 49 #[p, .pointer (some ⟨Bb, 0, none⟩)] W fun e w' => e = .returned (.string (ofL acc)) ∧ Below Bb W0 w' := by
  have HBS := Aside0.mk h.bs
  clear h
  go_enter Try.func49, Try.ntmps49
  go_wp2_with (go_at_call 67; refine (bstring HBS.out).mono ?_; rintro e w2 ⟨rfl, hb⟩)
  go_ret
  exact ⟨rfl, hb⟩
theorem html_render_c {B : Nat} {w0 : World} {q : Nat} {gs : List Nat} {x : Nat × ByteArray} {t : List (Nat × ByteArray)} {lev : Nat} {cl : ByteArray} {v : Value} {w : World} (h : LC B w0 q gs (x :: t) lev cl v w) (hB : B ≤ w.heap.size) (hw0 : B ≤ w0.heap.size)
    (hits : ∀ y ∈ x :: t, y.1 ≤ 1000 ∧ nameS y.2) (hn : (x :: t).length ≤ 1000) (hcl : nameS (clOf cl)) (hh : Nat) (o : List UInt8) (n : Nat) (hhl : HL (clOf cl) hh x.1 (x :: t) o n) (hbd : (ulO (clOf cl) x.1 ++ o ++ ulC x.1).length ≤ 1000000000000) :
    Calls Try.prog 23 #[.pointer (some ⟨q, 0, none⟩)] w fun e w' => e = .returned (.string (ofL (ulO (clOf cl) x.1 ++ o ++ ulC x.1))) ∧ Below B w0 w' := by
  obtain ⟨its, hits0⟩ : ∃ its, its = x :: t := ⟨_, rfl⟩
  have hx0 : its[0]? = some x := by rw [hits0]; rfl
  have hpos : 0 < its.length := by rw [hits0]; simp
  have hdr : its.drop 0 = its := List.drop_zero
  rw [← hits0] at h hits hn hhl
  clear hits0
  obtain ⟨A, c, rfl, _⟩ := Kd.R_reads h.row
  have HI := Aside0.mk (init_c (style_c h hB) hw0 (by decide) (by decide) (by omega) (fun y hy => ⟨(hits y hy).1, (hits y hy).2.1⟩))
  have HT := Aside0.mk hits
  have HCL := Aside0.mk hcl
  have HHL := Aside0.mk (show HL (clOf cl) hh x.1 (its.drop 0) o n by rw [hdr]; exact hhl)
  have HBD := Aside0.mk hbd
  clear h hits hcl hhl hbd hdr
  generalize clOf cl = cl at *
  have hd1 : decide ((its.length : Int) > 0) = true := decide_eq_true (by omega)
  have hd2 : decide (0 < its.length) = true := decide_eq_true hpos
  obtain ⟨g0, hg0⟩ : ∃ g0, g0 = gs.getD 0 0 := ⟨_, rfl⟩
  have HG0 := Aside0.mk hg0
  have HX0 := Aside0.mk hx0
  have HGET : ∀ w1 qs ap, RS B w0 q qs gs its lev dflt (ofL (Lib.repeatL [32] (Lib.runeCount dflt.ve))) cl ap (.slice A gs.length c) w1 → ∃ ad, A = some ad := fun w1 qs ap h => by
    obtain ⟨ad, g, c9, hv, _⟩ := h.item 0 hpos
    injection hv with e1 _ _
    exact ⟨ad, e1⟩
  have HI0 : ∀ (ad : Addr) (W1 : World), HD q gs its cl ad c W1 → W1.cell? ⟨q, 3, none⟩ = some (.slice (some ad) its.length c) ∧ W1.cell? ad = some (.pointer (some ⟨g0, 0, none⟩)) := fun ad W1 h => by
    have h2 := (h.it 0 x hx0).1
    rw [← hg0] at h2
    refine ⟨h.c3, ?_⟩
    have e : ad.add 0 = ad := by unfold Addr.add; split <;> simp_all
    rwa [e] at h2
  have IH : ∀ (ad : Addr) (gb : Nat) (w2 W1 : World), HB q gs its cl ad c gb w2 [] 0 W1 → Aside0 (Calls Try.prog 48 #[.pointer (some ⟨q, 0, none⟩), .pointer (some ⟨gb, 0, none⟩), .int .i64 0, .pointer (some ⟨g0, 0, none⟩)] W1 fun e w' => e = .returned (.int .i64 (n : Int)) ∧ HB q gs its cl ad c gb w2 ([] ++ (ulO cl x.1 ++ o ++ ulC x.1)) ([] ++ (ulO cl x.1 ++ o ++ ulC x.1)).length w') := fun ad gb w2 W1 h => Aside0.mk (by
    rw [hg0]
    exact html_c HT.out (by omega) HCL.out (hh + 1) hh (by omega) 0 x o n [] W1 hx0 HHL.out h (by rw [List.length_nil, Nat.zero_add]; exact HBD.out))
  clear hg0 hx0
  go_enter Try.func23, Try.ntmps23
  go_wp2_with (first
    | (go_at_call 46; refine HI.out.mono ?_; rintro e w1 ⟨u1, rfl, qs, ap, hap, hrs⟩; have HBW := Aside0.mk hrs.bel; obtain ⟨ad, rfl⟩ := HGET _ _ _ hrs; have HHD := Aside0.mk (hd_of hrs); have hc0 := hrs.cells.1; clear hrs)
    | ((with_reducible refine gate_dst (N := 3) rfl ?_); (try (refine gate_guard (by rfl) ?_; dsimp only)); refine box_event ?hg (N := 3) ?hd (cs := #[.pointer none, .slice none 0 0]) (t := 85) ?hr ?_; (case hd => rfl); (case hg => rfl); (case hr => first | (go_simp; done) | (go_simp; rfl)); intro gb hgb w2 hbox hb; have HGB := Aside0.mk hgb; have HBX := Aside0.mk hbox; have HB2 := Aside0.mk hb; have hc02 := pw_cell_below hb hc0; obtain ⟨k3, k4⟩ := HI0 _ _ (HHD.out.below hb); clear hgb hbox hb)
    | (go_at_call 47; refine (Try.Builder_Grow_fresh gb gb ap w2 (Nat.le_refl _) HBX.out (Nat.le_of_lt (blk_lt HBX.out)) (by omega)).mono ?_; rintro e w3 ⟨rfl, hba, hbb⟩; have HRB := Aside0.mk (HB0 HHD.out HGB.out HBX.out HB2.out hba hbb); obtain ⟨k5, k6⟩ := HI0 _ _ HRB.out.here; clear hba hbb)
    | (go_at_call 48; refine (IH _ _ _ _ HRB.out).out.mono ?_; rintro e w4 ⟨rfl, hb4⟩; have HR4 := Aside0.mk hb4; clear hb4)
    | (go_at_call 49; refine (rend_c _ HR4.out).mono ?_; rintro e w5 ⟨rfl, hb5⟩; have HR5 := Aside0.mk hb5; clear hb5))
  go_ret
  exact ⟨by rw [List.append_assoc]; rfl, HBW.out.trans ((bw HGB.out HB2.out HR5.out).mono (Nat.le_trans hw0 HBW.out.size))⟩
end Go.Proofs.Ytphnnbbgcnilgaa.HtC

namespace Go.Proofs.Ytphnnbbgcnilgaa.HtD
open Go.RowKit Go.Proofs.YtphnnbbgcnilgaaW.PrintWords Go.Proofs.Ytphnnbbgcnilgaa.Common Go.Proofs.Ytphnnbbgcnilgaa.LstA Go.Proofs.Ytphnnbbgcnilgaa.LstD Go.Proofs.Ytphnnbbgcnilgaa.LstI Go.Proofs.Ytphnnbbgcnilgaa.LstJ Go.Proofs.Ytphnnbbgcnilgaa.ItoaAll Go.Proofs.Ytphnnbbgcnilgaa.HtA Go.Proofs.Ytphnnbbgcnilgaa.HtC Go.Proofs.Ytphnnbbgcnilgaa.GFnListHTML
set_option linter.unusedVariables false
set_option linter.unusedSimpArgs false

def upS (cl : ByteArray) (l : Nat) : List UInt8 := [10] ++ pre l ++ [60, 117, 108, 32, 99, 108, 97, 115, 115, 61, 34] ++ cl.data.toList ++ [45] ++ itoaL (l : Int) ++ [34, 62]
def dnS (l : Nat) : List UInt8 := [10] ++ pre l ++ [60, 47, 117, 108, 62]
def liS (l : Nat) (s : ByteArray) : List UInt8 := [10] ++ pre (l + 1) ++ [60, 108, 105, 62] ++ s.data.toList ++ [60, 47, 108, 105, 62]
def ups (cl : ByteArray) : Nat → Nat → List UInt8
  | _, 0 => []
  | cur, n + 1 => upS cl (cur + 1) ++ ups cl (cur + 1) n
def dns : Nat → Nat → List UInt8
  | _, 0 => []
  | cur, n + 1 => dnS cur ++ dns (cur - 1) n
def T (cl : ByteArray) : Nat → List (Nat × ByteArray) → List UInt8
  | cur, [] => dns cur cur ++ [10, 60, 47, 117, 108, 62]
  | cur, x :: t => ups cl cur (x.1 - cur) ++ dns cur (cur - x.1) ++ liS x.1 x.2 ++ T cl x.1 t
def specL (cl : ByteArray) (l : List (Nat × ByteArray)) : List UInt8 := [60, 117, 108, 32, 99, 108, 97, 115, 115, 61, 34] ++ cl.data.toList ++ [34, 62] ++ T cl 0 l
def chain : List (Nat × ByteArray) → Bool
  | [] => true
  | [_] => true
  | x :: y :: t => decide (y.1 ≤ x.1 + 1) && chain (y :: t)
theorem chain_tail {x : Nat × ByteArray} {t : List (Nat × ByteArray)} (h : chain (x :: t) = true) : chain t = true := by
  cases t with
  | nil => rfl
  | cons y u => rw [chain, Bool.and_eq_true] at h; exact h.2
theorem chain_drop {l : List (Nat × ByteArray)} (h : chain l = true) : ∀ n, chain (l.drop n) = true := by
  intro n
  induction n generalizing l with
  | zero => exact h
  | succ n ih =>
    cases l with
    | nil => rfl
    | cons x t => rw [List.drop_succ_cons]; exact ih (chain_tail h)
def headLe (l : List (Nat × ByteArray)) (m : Nat) : Prop := ∀ x t, l = x :: t → x.1 ≤ m
theorem chain_head {x : Nat × ByteArray} {t : List (Nat × ByteArray)} (h : chain (x :: t) = true) : headLe t (x.1 + 1) := by
  intro y u e
  subst e
  rw [chain, Bool.and_eq_true] at h
  exact of_decide_eq_true h.1
theorem pre_comm : ∀ l : Nat, [32, 32] ++ Lib.repeatL ([32, 32] : List UInt8) l = Lib.repeatL [32, 32] l ++ [32, 32]
  | 0 => rfl
  | l + 1 => by rw [Lib.repeatL, List.append_assoc, ← pre_comm l]
theorem pre_succ (l : Nat) : pre (l + 1) = pre l ++ [32, 32] := pre_comm l
theorem li_eq (l : Nat) (s : ByteArray) (r : List UInt8) : liS l s ++ (10 :: r) = 10 :: (liL l s ++ r) := by
  unfold liS liL
  rw [pre_succ]
  simp
theorem up_eq (cl : ByteArray) (l : Nat) (r : List UInt8) : upS cl (l + 1) ++ (10 :: r) = 10 :: (ulO cl (l + 1) ++ r) := by
  unfold upS ulO numT
  rw [if_pos (by omega)]
  simp
def restT (cl : ByteArray) (lv : Nat) (r : List (Nat × ByteArray)) : List UInt8 := if lv = 0 then [] else T cl (lv - 1) r
theorem claim {cl : ByteArray} {h lv : Nat} {l : List (Nat × ByteArray)} {o : List UInt8} {n : Nat} (hl : HL cl h lv l o n) : chain l = true → headLe l (lv + 1) →
    T cl lv l = 10 :: (o ++ ulC lv ++ restT cl lv (l.drop n)) ∧ headLe (l.drop n) (lv - 1) ∧ (lv = 0 → l.drop n = []) := by
  induction hl with
  | nil h lv =>
    intro _ _
    refine ⟨?_, fun x t e => by simp at e, fun _ => rfl⟩
    cases lv with
    | zero => rfl
    | succ m =>
      unfold restT ulC
      rw [if_neg (by omega), Nat.add_sub_cancel, T, dns, Nat.add_sub_cancel]
      simp [dnS, T]
  | stop h lv x t hx =>
    intro _ _
    refine ⟨?_, fun y u e => by simp at e; obtain ⟨rfl, _⟩ := e; omega, fun e => by omega⟩
    obtain ⟨m, rfl⟩ : ∃ m, lv = m + 1 := ⟨lv - 1, by omega⟩
    unfold restT ulC
    rw [if_neg (by omega), Nat.add_sub_cancel, List.drop_zero, T, T, show x.1 - (m + 1) = 0 by omega, show x.1 - m = 0 by omega, show m + 1 - x.1 = (m - x.1) + 1 by omega, dns, Nat.add_sub_cancel]
    simp [dnS, ups]
  | same h h1 lv x t o n hh hx ht ih =>
    intro hc _
    subst hx
    obtain ⟨e, h2, h3⟩ := ih (chain_tail hc) (chain_head hc)
    refine ⟨?_, h2, h3⟩
    rw [T, Nat.sub_self, ups, dns, e, List.nil_append, List.nil_append, li_eq, List.drop_succ_cons]
    simp
  | deep h h1 h2 lv x t o1 o2 n1 n2 hh1 hh2 hx hn ha hb ih1 ih2 =>
    intro hc hhd
    have hx1 : x.1 = lv + 1 := by have := hhd x t rfl; omega
    obtain ⟨e1, k1, _⟩ := ih1 hc (fun y u e => by injection e with e _; subst e; omega)
    rw [hx1] at e1 k1
    obtain ⟨e2, k2, k3⟩ := ih2 (chain_drop hc n1) (fun y u e => by have := k1 y u e; omega)
    rw [List.drop_drop] at e2 k2 k3
    refine ⟨?_, k2, k3⟩
    have hT : T cl lv (x :: t) = upS cl (lv + 1) ++ T cl (lv + 1) (x :: t) := by
      rw [T, T, hx1, show lv + 1 - lv = 0 + 1 by omega, show lv - (lv + 1) = 0 by omega, ups, ups, dns, Nat.sub_self, ups, dns]
      simp
    rw [hT, e1, up_eq]
    unfold restT at e1 ⊢
    rw [if_neg (by omega), Nat.add_sub_cancel, e2, hx1]
    unfold restT
    simp
theorem some_HL (cl : ByteArray) : ∀ (N : Nat) (l : List (Nat × ByteArray)), l.length ≤ N → ∀ lv, ∃ h o n, HL cl h lv l o n := by
  intro N
  induction N with
  | zero =>
    intro l hl lv
    obtain rfl : l = [] := List.eq_nil_of_length_eq_zero (by omega)
    exact ⟨0, [], 0, .nil 0 lv⟩
  | succ N ih =>
    intro l hl lv
    cases l with
    | nil => exact ⟨0, [], 0, .nil 0 lv⟩
    | cons x t =>
      simp only [List.length_cons] at hl
      rcases Nat.lt_trichotomy x.1 lv with hx | hx | hx
      · exact ⟨0, [], 0, .stop 0 lv x t hx⟩
      · obtain ⟨h, o, n, hh⟩ := ih t (by omega) lv
        exact ⟨h + 1, _, _, .same (h + 1) h lv x t o n (by omega) hx hh⟩
      · obtain ⟨h, o, n, hh⟩ := ih t (by omega) x.1
        obtain ⟨h2, o2, n2, hh2⟩ := ih (t.drop n) (by rw [List.length_drop]; omega) lv
        have ha : HL cl (h + 1) x.1 (x :: t) (liL x.1 x.2 ++ o) (n + 1) := .same (h + 1) h x.1 x t o n (by omega) rfl hh
        exact ⟨h + 1 + h2 + 1, _, _, .deep (h + 1 + h2 + 1) (h + 1) h2 lv x t _ o2 (n + 1) n2 (by omega) (by omega) hx (by omega) ha (by rw [List.drop_succ_cons]; exact hh2)⟩
theorem top_eq {cl : ByteArray} {h : Nat} {x : Nat × ByteArray} {t : List (Nat × ByteArray)} {o : List UInt8} {n : Nat} (hx : x.1 = 0) (hl : HL cl h x.1 (x :: t) o n) (hc : chain (x :: t) = true) : ulO cl x.1 ++ o ++ ulC x.1 = specL cl (x :: t) := by
  obtain ⟨e, _, _⟩ := claim hl hc (fun y u e => by injection e with e _; subst e; omega)
  unfold specL
  rw [hx] at e ⊢
  rw [e]
  unfold restT ulO numT
  rw [if_pos rfl, if_neg (by omega)]
  simp [pre, Lib.repeatL]
/-! ### the contract -/
instance (c : UInt8) : Decidable (nameB c) := by unfold nameB; infer_instance
instance (s : ByteArray) : Decidable (nameS s) := by unfold nameS; infer_instance
def okH (cl : ByteArray) (l : List (Nat × ByteArray)) : Prop := l.length ≤ 1000 ∧ l ≠ [] ∧ (∀ x ∈ l.head?, x.1 = 0) ∧ chain l = true ∧ (∀ y ∈ l, y.1 ≤ 1000 ∧ nameS y.2) ∧ (specL cl l).length ≤ 1000000000000
instance (cl : ByteArray) (l : List (Nat × ByteArray)) : Decidable (okH cl l) := by unfold okH; infer_instance
def htmlF (l : List S58) (cl : ByteArray) : Option ByteArray := if l.length ≤ 20000 ∧ nameS (clOf cl) then (run l ([], 0)).bind fun st => if okH (clOf cl) st.1 then some (ofL (specL (clOf cl) st.1)) else none else none
theorem html_top {B : Nat} {w0 : World} {q : Nat} {gs : List Nat} {its : List (Nat × ByteArray)} {lev : Nat} {cl : ByteArray} {v : Value} {w : World} (h : LC B w0 q gs its lev cl v w) (hB : B ≤ w.heap.size) (hw0 : B ≤ w0.heap.size) (hcl : nameS (clOf cl)) (hok : okH (clOf cl) its) :
    Calls Try.prog 23 #[.pointer (some ⟨q, 0, none⟩)] w fun e w' => e = .returned (.string (ofL (specL (clOf cl) its))) ∧ Below B w0 w' := by
  obtain ⟨h1, h2, h3, h4, h5, h6⟩ := hok
  cases its with
  | nil => exact absurd rfl h2
  | cons x t =>
    have hx := h3 x rfl
    obtain ⟨hh, o, n, hl⟩ := some_HL (clOf cl) (x :: t).length (x :: t) (Nat.le_refl _) x.1
    have e := top_eq hx hl h4
    have := html_render_c h hB hw0 h5 h1 hcl hh o n hl (by rw [e]; exact h6)
    rwa [e] at this
set_option maxRecDepth 1000000 in
theorem listHtml_c (A : Option Addr) (c : Nat) (l : List S58) (cl r : ByteArray) (w : World) (hr : Kd.C k58 w A l.length l) (h : htmlF l cl = some r) :
    Calls Try.prog 10 #[.slice A l.length c, .string cl] w fun e w' => e = .returned (.string r) ∧ Below w.heap.size w w' := by
  unfold htmlF at h
  by_cases hc : l.length ≤ 20000 ∧ nameS (clOf cl)
  · rw [if_pos hc] at h
    obtain ⟨hl, hcl⟩ := hc
    obtain ⟨st, hs, h⟩ := Option.bind_eq_some_iff.1 h
    by_cases hok : okH (clOf cl) st.1
    · rw [if_pos hok] at h
      injection h with h
      have H := Aside0.mk (listOf_c l st hs hl A c w hr)
      have HO := Aside0.mk hok
      have HR := Aside0.mk h
      have HC := Aside0.mk hcl
      clear hr h hs hok hcl
      by_cases hz : cl = ⟨#[]⟩
      · subst hz
        go_enter Try.func10, Try.ntmps10
        go_wp2_with (first
          | (go_at_call 21; refine H.out.mono ?_; rintro e w1 ⟨q, gs, v, rfl, hsz, hls⟩; have HLS := Aside0.mk hls; have HSZ := Aside0.mk hsz; clear hls hsz)
          | (go_at_call 23; refine (html_top (lc_of HLS.out) HSZ.out (Nat.le_refl _) HC.out HO.out).mono ?_; rintro e w2 ⟨rfl, hb2⟩; have HB2 := Aside0.mk hb2; clear hb2))
        go_ret
        exact ⟨by rw [← HR.out]; rfl, HB2.out⟩
      · have hb0 : (cl.toList == ([] : List UInt8)) = false := beq_eq_false_iff_ne.2 (fun e => hz (by rw [tl] at e; rw [← ofL_of cl, e]; rfl))
        have hb1 : (cl.toList != ([] : List UInt8)) = true := by unfold bne; rw [hb0]; rfl
        go_enter Try.func10, Try.ntmps10
        go_wp2_with (first
          | (go_at_call 21; refine H.out.mono ?_; rintro e w1 ⟨q, gs, v, rfl, hsz, hls⟩; have HLS := Aside0.mk hls; have HSZ := Aside0.mk hsz; clear hls hsz)
          | (go_at_call 22; refine (class_c HLS.out cl).mono ?_; rintro e w2 ⟨u, rfl, hlc⟩; have HLC := Aside0.mk hlc; have HSZ2 := Aside0.mk hlc.bel.size; clear hlc)
          | (go_at_call 23; refine (html_top HLC.out HSZ2.out (Nat.le_refl _) HC.out HO.out).mono ?_; rintro e w3 ⟨rfl, hb2⟩; have HB2 := Aside0.mk hb2; clear hb2))
        go_ret
        exact ⟨by rw [← HR.out]; rfl, HB2.out⟩
    · rw [if_neg hok] at h
      cases h
  · rw [if_neg hc] at h
    cases h
end Go.Proofs.Ytphnnbbgcnilgaa.HtD
