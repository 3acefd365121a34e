/-
  Proved: what htmlRenderRecursively of a list writes and returns. Conditions: texts of letters, digits and blanks, levels of at most 1000.
-/
import Derived.Test.YtphnnbbgcnilgaaLstJ
import Derived.Test.YtphnnbbgcnilgaaBld
import Derived.Test.YtphnnbbgcnilgaaItoaAll
import Derived.BigQuiet
import Derived.Deep.QuietTactic
namespace Go.Proofs.Ytphnnbbgcnilgaa.HtA
open Go.RowKit Go.Proofs.YtphnnbbgcnilgaaW.PrintWords Go.Proofs.YtphnnbbgcnilgaaW.PrintMore Go.Proofs.Ytphnnbbgcnilgaa.Common Go.Proofs.Ytphnnbbgcnilgaa.GEL Go.Proofs.Ytphnnbbgcnilgaa.LstT Go.Proofs.Ytphnnbbgcnilgaa.LstA Go.Proofs.Ytphnnbbgcnilgaa.LstB Go.Proofs.Ytphnnbbgcnilgaa.LstC Go.Proofs.Ytphnnbbgcnilgaa.LstE Go.Proofs.Ytphnnbbgcnilgaa.LstI Go.Proofs.Ytphnnbbgcnilgaa.LstJ Go.Proofs.Ytphnnbbgcnilgaa.Bld Go.Proofs.Ytphnnbbgcnilgaa.ItoaAll
set_option linter.unusedVariables false
set_option linter.unusedSimpArgs false
set_option maxRecDepth 1000000

/-- letters, digits, blanks (and '-') alone -/
def nameB (c : UInt8) : Prop := c ≠ 60 ∧ c ≠ 62 ∧ c ≠ 38 ∧ c ≠ 39 ∧ c ≠ 34 ∧ c ≠ 10
def nameS (s : ByteArray) : Prop := s.size ≤ 1000 ∧ ∀ c ∈ s.data.toList, nameB c
theorem esc_loop (s : ByteArray) (hs : nameS s) : ∀ d i : Nat, i + d = s.size → Ev (fun k => list_zzEscape.l0 k s (ofBs (s.data.toList.take i)) (i : Int)) s := by
  intro d
  induction d with
  | zero =>
    intro i hi
    refine Ev.step (f := fun _ => some s) (fun k => ?_) (Ev.now s)
    simp only [list_zzEscape.l0]
    rw [if_neg (by omega), List.take_of_length_le (by rw [size_l]; omega), show strOfNums (ofBs s.data.toList) = ofL s.data.toList from str_nums _, ofL_of]
  | succ d ih =>
    intro i hi
    have hlt : i < s.size := by omega
    have hll : i < s.data.toList.length := by rw [size_l]; exact hlt
    have hb := bt_get s i hlt
    obtain ⟨h1, h2, h3, h4, h5, _⟩ := hs.2 _ (List.getElem_mem hll)
    have ne : ∀ k : Nat, k < 256 → s.data.toList[i] ≠ UInt8.ofNat k → ¬ bt s (i : Int) = (k : Int) := fun k hk h e => by
      rw [hb] at e
      apply h
      apply UInt8.toNat_inj.1
      rw [UInt8.toNat_ofNat']
      have : (s.data.toList[i]).toNat = k := by exact_mod_cast e
      omega
    refine Ev.step (fun k => ?_) (ih (i + 1) (by omega))
    simp only [list_zzEscape.l0]
    have hs1 := hs.1
    rw [if_pos (by omega), if_pos (by omega), if_neg (show ¬ bt s (i : Int) = 60 from ne 60 (by omega) h1), if_neg (show ¬ bt s (i : Int) = 62 from ne 62 (by omega) h2), if_neg (show ¬ bt s (i : Int) = 38 from ne 38 (by omega) h3), if_neg (show ¬ bt s (i : Int) = 39 from ne 39 (by omega) h4), if_neg (show ¬ bt s (i : Int) = 34 from ne 34 (by omega) h5), if_pos (by simp [ofBs]; omega), w64 ((i : Int) + 1) (by omega) (by omega), List.take_add_one, List.getElem?_eq_getElem hll, Option.toList_some, hb]
    simp [ofBs]
theorem esc_c (s : ByteArray) (hs : nameS s) (W : World) : Calls Try.prog 63 #[.string s] W fun e w' => e = .returned (.string s) ∧ Below W.heap.size W w' := by
  obtain ⟨k, hk⟩ := esc_loop s hs s.size 0 (by omega)
  exact list_zzEscape.calls k s s W (hk k (Nat.le_refl _))
theorem br_c (s : ByteArray) (hs : nameS s) (W : World) : Calls Try.prog 66 #[.string s, .string ⟨#[10]⟩, .string ⟨#[60, 98, 114, 47, 62]⟩] W fun e w' => e = .returned (.string s) ∧ Below W.heap.size W w' :=
  replL_c s ⟨#[60, 98, 114, 47, 62]⟩ hs.1 (by show 5 ≤ 1000; omega) 10 (fun d hd => (hs.2 d hd).2.2.2.2.2) W
theorem wrapS (k : Nat) (h : k ≤ 1000000) : wrap64 ((k : Int) + 1) = ((k + 1 : Nat) : Int) := by rw [w64 _ (by omega) (by omega)]; omega
/-! ### the plain shape -/
def pre (lv : Nat) : List UInt8 := Lib.repeatL [32, 32] lv
def numT (lv : Nat) : List UInt8 := if 0 < lv then 45 :: itoaL (lv : Int) else []
def ulO (cl : ByteArray) (lv : Nat) : List UInt8 := pre lv ++ [60, 117, 108, 32, 99, 108, 97, 115, 115, 61, 34] ++ cl.data.toList ++ numT lv ++ [34, 62, 10]
def ulC (lv : Nat) : List UInt8 := pre lv ++ [60, 47, 117, 108, 62]
def liL (lv : Nat) (s : ByteArray) : List UInt8 := pre lv ++ [32, 32, 60, 108, 105, 62] ++ s.data.toList ++ [60, 47, 108, 105, 62, 10]
inductive HL (cl : ByteArray) : Nat → Nat → List (Nat × ByteArray) → List UInt8 → Nat → Prop
  | nil (h lv : Nat) : HL cl h lv [] [] 0
  | stop (h lv : Nat) (x : Nat × ByteArray) (t : List (Nat × ByteArray)) (hx : x.1 < lv) : HL cl h lv (x :: t) [] 0
  | same (h h1 lv : Nat) (x : Nat × ByteArray) (t : List (Nat × ByteArray)) (o : List UInt8) (n : Nat) (hh : h1 < h) (hx : x.1 = lv) (ht : HL cl h1 lv t o n) : HL cl h lv (x :: t) (liL lv x.2 ++ o) (n + 1)
  | deep (h h1 h2 lv : Nat) (x : Nat × ByteArray) (t : List (Nat × ByteArray)) (o1 o2 : List UInt8) (n1 n2 : Nat) (hh1 : h1 < h) (hh2 : h2 < h) (hx : lv < x.1) (hn : 0 < n1) (ha : HL cl h1 x.1 (x :: t) o1 n1) (hb : HL cl h2 lv ((x :: t).drop n1) o2 n2) :
      HL cl h lv (x :: t) (ulO cl x.1 ++ o1 ++ ulC x.1 ++ [10] ++ o2) (n1 + n2)
theorem HL.inv_nil {cl : ByteArray} {h lv : Nat} {o : List UInt8} {n : Nat} (hl : HL cl h lv [] o n) : o = [] ∧ n = 0 := by
  cases hl
  exact ⟨rfl, rfl⟩
theorem HL.inv {cl : ByteArray} {h lv : Nat} {x : Nat × ByteArray} {t : List (Nat × ByteArray)} {o : List UInt8} {n : Nat} (hl : HL cl h lv (x :: t) o n) :
    (x.1 < lv ∧ o = [] ∧ n = 0) ∨ (x.1 = lv ∧ ∃ h1 o1 n1, h1 < h ∧ HL cl h1 lv t o1 n1 ∧ o = liL lv x.2 ++ o1 ∧ n = n1 + 1) ∨
    (lv < x.1 ∧ ∃ h1 h2 o1 o2 n1 n2, h1 < h ∧ h2 < h ∧ 0 < n1 ∧ HL cl h1 x.1 (x :: t) o1 n1 ∧ HL cl h2 lv ((x :: t).drop n1) o2 n2 ∧ o = ulO cl x.1 ++ o1 ++ ulC x.1 ++ [10] ++ o2 ∧ n = n1 + n2) := by
  cases hl with
  | stop _ _ _ _ hx => exact .inl ⟨hx, rfl, rfl⟩
  | same _ h1 _ _ _ o1 n1 hh hx ht => exact .inr (.inl ⟨hx, h1, o1, n1, hh, ht, rfl, rfl⟩)
  | deep _ h1 h2 _ _ _ o1 o2 n1 n2 hh1 hh2 hx hn ha hb => exact .inr (.inr ⟨hx, h1, h2, o1, o2, n1, n2, hh1, hh2, hn, ha, hb, rfl, rfl⟩)
theorem HL.le {cl : ByteArray} {h lv : Nat} {l : List (Nat × ByteArray)} {o : List UInt8} {n : Nat} (hl : HL cl h lv l o n) : n ≤ l.length := by
  induction hl with
  | nil => simp
  | stop => simp
  | same => simp; omega
  | deep h h1 h2 lv x t o1 o2 n1 n2 hh1 hh2 hx hn ha hb ih1 ih2 => rw [List.length_drop] at ih2; omega
/-! ### what is read and written -/
structure HD (q : Nat) (gs : List Nat) (its : List (Nat × ByteArray)) (cl : ByteArray) (ad : Addr) (c : Nat) (W : World) : Prop where
  c2 : W.cell? ⟨q, 2, none⟩ = some (.string cl)
  c3 : W.cell? ⟨q, 3, none⟩ = some (.slice (some ad) its.length c)
  it : ∀ (i : Nat) (x : Nat × ByteArray), its[i]? = some x → W.cell? (ad.add i) = some (.pointer (some ⟨gs.getD i 0, 0, none⟩)) ∧ W.cell? ⟨gs.getD i 0, 0, none⟩ = some (.int .i64 (x.1 : Int)) ∧ W.cell? ⟨gs.getD i 0, 1, none⟩ = some (.string x.2)
structure HB (q : Nat) (gs : List Nat) (its : List (Nat × ByteArray)) (cl : ByteArray) (ad : Addr) (c : Nat) (Bb : Nat) (W0 : World) (acc : List UInt8) (m : Nat) (W : World) : Prop where
  rd : ∀ W, Below Bb W0 W → HD q gs its cl ad c W
  bs : BS Bb W0 acc m W
section
variable {q : Nat} {gs : List Nat} {its : List (Nat × ByteArray)} {cl : ByteArray} {ad : Addr} {c : Nat} {Bb : Nat} {W0 : World} {acc : List UInt8} {m : Nat} {W W1 : World}
theorem HB.below (h : HB q gs its cl ad c Bb W0 acc m W) (hb : Below W.heap.size W W1) : HB q gs its cl ad c Bb W0 acc m W1 := ⟨h.rd, h.bs.below hb⟩
theorem HB.here (h : HB q gs its cl ad c Bb W0 acc m W) : HD q gs its cl ad c W := h.rd W h.bs.bel
theorem HB.norm (h : HB q gs its cl ad c Bb W0 acc m W) {acc' : List UInt8} (e : acc = acc') : HB q gs its cl ad c Bb W0 acc' acc'.length W := ⟨h.rd, h.bs.mono e (Nat.le_refl _)⟩
theorem HB.str (h : HB q gs its cl ad c Bb W0 acc m W) (s : ByteArray) (hs : s.size ≤ 5000) (hm : m ≤ 10000000000000) :
    Calls Try.prog 62 #[.pointer (some ⟨Bb, 0, none⟩), .string s] W fun e w' => ∃ v, e = .returned v ∧ HB q gs its cl ad c Bb W0 (acc ++ s.data.toList) (m + 5000) w' := by
  refine (wrString s h.bs (by omega)).mono ?_
  rintro e w' ⟨v, rfl, hb⟩
  exact ⟨v, rfl, h.rd, hb.mono rfl (by have := hb.len; omega)⟩
theorem HB.rune (h : HB q gs its cl ad c Bb W0 acc m W) (b : UInt8) (hc : b.toNat < 128) (r : Int) (hr : r = (b.toNat : Int)) (hm : m ≤ 10000000000000) :
    Calls Try.prog 64 #[.pointer (some ⟨Bb, 0, none⟩), .int .i32 r] W fun e w' => ∃ v, e = .returned v ∧ HB q gs its cl ad c Bb W0 (acc ++ [b]) (m + 5000) w' := by
  refine (wrRune b hc r hr h.bs (by omega)).mono ?_
  rintro e w' ⟨v, rfl, hb⟩
  exact ⟨v, rfl, h.rd, hb.mono rfl (by have := hb.len; omega)⟩
theorem rep2_c (n : Nat) (hn : n ≤ 1000) (W : World) : Calls Try.prog 58 #[.string ⟨#[32, 32]⟩, .int .i64 (n : Int)] W fun e w' => e = .returned (.string (ofL (pre n))) ∧ Below W.heap.size W w' :=
  Try.strings_Repeat ⟨#[32, 32]⟩ n W (by omega) (by show 2 * n ≤ _; omega)
theorem pre_len (n : Nat) : (pre n).length = 2 * n := by unfold pre; rw [Lib.repeatL_length]; simp; omega
end
end Go.Proofs.Ytphnnbbgcnilgaa.HtA

namespace Go.Proofs.Ytphnnbbgcnilgaa.HtB
open Go.RowKit Go.Proofs.YtphnnbbgcnilgaaW.PrintWords Go.Proofs.YtphnnbbgcnilgaaW.PrintMore Go.Proofs.Ytphnnbbgcnilgaa.Common Go.Proofs.Ytphnnbbgcnilgaa.LstT Go.Proofs.Ytphnnbbgcnilgaa.LstA Go.Proofs.Ytphnnbbgcnilgaa.LstB Go.Proofs.Ytphnnbbgcnilgaa.Bld Go.Proofs.Ytphnnbbgcnilgaa.ItoaAll Go.Proofs.Ytphnnbbgcnilgaa.HtA
set_option linter.unusedVariables false
set_option linter.unusedSimpArgs false
set_option maxRecDepth 1000000
section
variable {q : Nat} {gs : List Nat} {its : List (Nat × ByteArray)} {cl : ByteArray} {ad : Addr} {c : Nat} {Bb : Nat} {W0 : World}
set_option maxHeartbeats 8000000 in
theorem html_c (hits : ∀ x ∈ its, x.1 ≤ 1000 ∧ nameS x.2) (hn : its.length ≤ 100000) (hcl : nameS cl) : ∀ (hh h : Nat), h < hh → ∀ (idx : Nat) (x : Nat × ByteArray) (o : List UInt8) (n : Nat) (acc : List UInt8) (W : World), its[idx]? = some x → HL cl h x.1 (its.drop idx) o n → HB q gs its cl ad c Bb W0 acc acc.length W → acc.length + (ulO cl x.1 ++ o ++ ulC x.1).length ≤ 1000000000000 →
    Calls Try.prog 48 #[.pointer (some ⟨q, 0, none⟩), .pointer (some ⟨Bb, 0, none⟩), .int .i64 (idx : Int), .pointer (some ⟨gs.getD idx 0, 0, none⟩)] W fun e w' => e = .returned (.int .i64 (n : Int)) ∧ HB q gs its cl ad c Bb W0 (acc ++ (ulO cl x.1 ++ o ++ ulC x.1)) (acc ++ (ulO cl x.1 ++ o ++ ulC x.1)).length w' := by
  intro hh
  induction hh with
  | zero => intro h hlt; omega
  | succ hh ih =>
  intro h hlt idx x o n acc W hx hhl hb hbound
  have IH := Aside0.mk ih
  have HITS := Aside0.mk hits
  obtain ⟨hxl, hxs⟩ := hits x (List.mem_of_getElem? hx)
  have HX : ∀ W1, HB q gs its cl ad c Bb W0 acc acc.length W1 → True := fun _ _ => trivial
  have hidx : idx < its.length := (List.getElem?_eq_some_iff.1 hx).1
  obtain ⟨g, hg⟩ : ∃ g, g = gs.getD idx 0 := ⟨_, rfl⟩
  obtain ⟨lv, tx⟩ := x
  dsimp only at hhl hbound hxl hxs ⊢
  have HIT : ∀ (W1 : World) (a : List UInt8) (m : Nat), HB q gs its cl ad c Bb W0 a m W1 → W1.cell? ⟨q, 2, none⟩ = some (.string cl) ∧ W1.cell? ⟨q, 3, none⟩ = some (.slice (some ad) its.length c) ∧ W1.cell? ⟨g, 0, none⟩ = some (.int .i64 (lv : Int)) := fun W1 a m h1 => by
    have h2 := h1.here
    refine ⟨h2.c2, h2.c3, ?_⟩
    rw [hg]
    exact (h2.it idx _ hx).2.1
  have HHL := Aside0.mk hhl
  have HBD := Aside0.mk hbound
  have HS := Aside0.mk hb
  have hpl : (ofL (pre lv)).size ≤ 5000 := by rw [← size_l, ofL_data, pre_len]; omega
  have hal : acc.length ≤ 1000000000000 := by omega
  have HRP := fun W => Aside0.mk (rep2_c lv hxl W)
  have HEC := fun W => Aside0.mk (esc_c cl hcl W)
  have hc1 : cl.size ≤ 5000 := by have := hcl.1; omega
  have HIO := fun W => Aside0.mk (itoa (lv : Int) (by omega) (by omega) W)
  have hio : (ofL (itoaL (lv : Int))).size ≤ 5000 := by rw [← size_l, ofL_data]; have := itoaL_len (lv : Int) (by omega) (by omega); omega
  obtain ⟨c2, c3, g0⟩ := HIT _ _ _ hb
  rw [← hg]
  have HG := Aside0.mk hg
  clear hg
  clear ih hits hhl hbound hb HX hx
  go_enter Try.func48, Try.ntmps48
  go_upto_region 5 with (first
    | (go_at_call 58; refine (HRP _).out.mono ?_; rintro e w1 ⟨rfl, hb1⟩; have HS := Aside0.mk (HS.out.below hb1); clear hb1; obtain ⟨c2, c3, g0⟩ := HIT _ _ _ HS.out)
    | (go_at_call 63; refine (HEC _).out.mono ?_; rintro e w1 ⟨rfl, hb1⟩; have HS := Aside0.mk (HS.out.below hb1); clear hb1; obtain ⟨c2, c3, g0⟩ := HIT _ _ _ HS.out)
    | (go_at_call 62; refine (HS.out.str _ (by first | (with_reducible assumption) | decide) (by omega)).mono ?_; rintro e w1 ⟨v1, rfl, hb1⟩; have HS := Aside0.mk hb1; clear hb1; obtain ⟨c2, c3, g0⟩ := HIT _ _ _ HS.out))
  obtain ⟨A1, hA1⟩ : ∃ A1, A1 = acc ++ (ofL (pre lv)).data.toList ++ [60, 117, 108, 32, 99, 108, 97, 115, 115, 61, 34] ++ cl.data.toList := ⟨_, rfl⟩
  rw [← hA1] at HS
  have HA1 := Aside0.mk hA1
  clear hA1
  go_upto_if 34 with (fail)
  go_cut [] from 34 to 43 (fun wx => Aside0 (HB q gs its cl ad c Bb W0 (A1 ++ numT lv) (acc.length + 30000) wx))
  case first =>
    by_cases hz : 0 < lv
    · have hd : decide ((lv : Int) > 0) = true := decide_eq_true (by omega)
      go_wp2_with (first
        | (go_at_call 64; refine (HS.out.rune 45 (by decide) 45 rfl (by omega)).mono ?_; rintro e w2 ⟨v2, rfl, hb2⟩; have HS := Aside0.mk hb2; clear hb2; obtain ⟨c2, c3, g0⟩ := HIT _ _ _ HS.out)
        | (go_at_call 65; refine (HIO _).out.mono ?_; rintro e w2 ⟨rfl, hb2⟩; have HS := Aside0.mk (HS.out.below hb2); clear hb2; obtain ⟨c2, c3, g0⟩ := HIT _ _ _ HS.out)
        | (go_at_call 62; refine (HS.out.str _ (by first | (with_reducible assumption) | decide) (by omega)).mono ?_; rintro e w2 ⟨v2, rfl, hb2⟩; have HS := Aside0.mk hb2; clear hb2; obtain ⟨c2, c3, g0⟩ := HIT _ _ _ HS.out))
      go_meet
      refine ⟨⟨HS.out.rd, HS.out.bs.mono (by unfold numT; rw [if_pos hz]; simp [ofL_data]) ?_⟩⟩
      have h1 := HS.out.bs.len
      unfold numT
      rw [if_pos hz]
      simp only [List.length_append, List.length_cons, List.length_nil, ofL_data] at h1 ⊢
      omega
    · have hd : decide ((lv : Int) > 0) = false := decide_eq_false (by omega)
      go_wp2
      go_meet
      refine ⟨⟨HS.out.rd, HS.out.bs.mono (by unfold numT; rw [if_neg hz]; simp) ?_⟩⟩
      have h1 := HS.out.bs.len
      unfold numT
      rw [if_neg hz]
      simp only [List.append_nil]
      omega
  case rest =>
    clear HIO hio HRP HEC hc1
    have HSX := hcut
    clear hcut
    repeat clear HS
    repeat clear c2
    repeat clear c3
    repeat clear g0
    have HS := HSX
    clear HSX
    obtain ⟨c2, c3, g0⟩ := HIT _ _ _ HS.out
    obtain ⟨A2, hA2⟩ : ∃ A2, A2 = acc ++ ulO cl lv := ⟨_, rfl⟩
    have HE2 : Aside0 (A1 ++ numT lv ++ [34, 62, 10] = A2) := ⟨by rw [hA2, HA1.out]; unfold ulO; simp [ofL_data]⟩
    have HA2 := Aside0.mk hA2
    have HA2L : Aside0 (A2.length + o.length ≤ 1000000000000) := ⟨by have := HBD.out; rw [hA2]; simp only [List.length_append] at this ⊢; omega⟩
    clear hA2
    go_wp2_with (go_at_call 62; refine (HS.out.str _ (by first | (with_reducible assumption) | decide) (by omega)).mono ?_; rintro e w2 ⟨v2, rfl, hb2⟩; have HS := Aside0.mk hb2; clear hb2; obtain ⟨c2, c3, g0⟩ := HIT _ _ _ HS.out)
    have HS0 := Aside0.mk (HS.out.norm HE2.out)
    clear HE2
    repeat clear HS
    repeat clear c2
    repeat clear c3
    repeat clear g0
    go_loopw [10, 11, 12] (fun vn vi _ wr => ∃ (p k h2 n2 : Nat) (o2 P : List UInt8), Value.int .i64 (k : Int) = vn ∧ Value.int .i64 (p : Int) = vi ∧ p = idx + k ∧ p ≤ its.length ∧ h2 ≤ h ∧ k + n2 = n ∧ Aside0 (HL cl h2 lv (its.drop p) o2 n2) ∧ Aside0 (P ++ o2 = o) ∧ Aside0 (HB q gs its cl ad c Bb W0 (A2 ++ P) (A2 ++ P).length wr)) (fun _ vi _ _ => its.length - (intOf vi).toNat)
    case atStart => exact ⟨idx, 0, h, n, o, [], rfl, rfl, by omega, by omega, by omega, by omega, HHL, ⟨rfl⟩, by rw [List.append_nil]; exact HS0⟩
    case round =>
      obtain ⟨p, k, h2, n2, o2, P, rfl, rfl, hpk, hple, hh2, hkn, HL2, HP, HS⟩ := hrel
      clear HS0
      have hk1 : k ≤ 1000000 := by omega
      have HPK := Aside0.mk hpk
      have HKN := Aside0.mk hkn
      clear hpk hkn
      have hbl : (A2 ++ P).length ≤ 1000000000000 := by
        have h1 := HA2L.out
        have h3 := congrArg List.length HP.out
        rw [List.length_append] at h3 ⊢
        omega
      obtain ⟨m0, hm0⟩ : ∃ m0, m0 = (A2 ++ P).length := ⟨_, rfl⟩
      rw [← hm0] at HS hbl
      have HM0 := Aside0.mk hm0
      clear hm0
      have hm1 : m0 ≤ 10000000000000 := by omega
      have hm2 : m0 + 5000 ≤ 10000000000000 := by omega
      have hm3 : m0 + 5000 + 5000 ≤ 10000000000000 := by omega
      have hm4 : m0 + 5000 + 5000 + 5000 ≤ 10000000000000 := by omega
      obtain ⟨c2, c3, g0⟩ := HIT _ _ _ HS.out
      by_cases hlt2 : p < its.length
      · have hd : decide ((p : Int) < (its.length : Int)) = true := decide_eq_true (by omega)
        have HWP := Aside0.mk (wrapS p (by omega))
        have HWK := Aside0.mk (wrapS k hk1)
        obtain ⟨gp, hgp⟩ : ∃ gp, gp = gs.getD p 0 := ⟨_, rfl⟩
        have hxm := List.getElem_mem hlt2
        have hxi := List.getElem?_eq_getElem hlt2
        have hdrop := List.drop_eq_getElem_cons hlt2
        obtain ⟨y, hy⟩ : ∃ y, y = its[p] := ⟨_, rfl⟩
        rw [← hy] at hxm hxi hdrop
        obtain ⟨hyl, hys⟩ := HITS.out y hxm
        obtain ⟨yl, yt⟩ := y
        dsimp only at hyl hys
        have HI2 : ∀ (W1 : World) (a : List UInt8) (m : Nat), HB q gs its cl ad c Bb W0 a m W1 → W1.cell? (ad.add p) = some (.pointer (some ⟨gp, 0, none⟩)) ∧ W1.cell? ⟨gp, 0, none⟩ = some (.int .i64 (yl : Int)) ∧ W1.cell? ⟨gp, 1, none⟩ = some (.string yt) := fun W1 a m h1 => by
          rw [hgp]
          exact h1.here.it p _ hxi
        obtain ⟨i0, i1, i2⟩ := HI2 _ _ _ HS.out
        have HXI := Aside0.mk hxi
        have HGP := Aside0.mk hgp
        have HDR := Aside0.mk hdrop
        have hinv := HL2.out
        rw [hdrop] at hinv
        have hyt : yt.size ≤ 5000 := by have := hys.1; omega
        rcases hinv.inv with ⟨hx, ho, hn2⟩ | ⟨hx, h3, o3, n3, hh3, hl3, ho, hn2⟩ | ⟨hx, h3, h4, o3, o4, n3, n4, hh3, hh4, hn3, hl3, hl4, ho, hn2⟩
        · dsimp only at hx
          have hd3 : decide ((yl : Int) = (lv : Int)) = false := decide_eq_false (by omega)
          have hd4 : ((yl : Int) == (lv : Int)) = false := beq_eq_false_iff_ne.2 (by omega)
          have hd5 : decide ((yl : Int) > (lv : Int)) = false := decide_eq_false (by omega)
          have hd8 : decide (lv < yl) = false := decide_eq_false (by omega)
          have hd9 : decide (yl = lv) = false := decide_eq_false (by omega)
          have HE : Aside0 (A2 ++ P ++ (ofL (pre lv)).data.toList ++ [60, 47, 117, 108, 62] = acc ++ (ulO cl lv ++ o ++ ulC lv)) := ⟨by rw [HA2.out, ← HP.out, ho]; unfold ulC; simp [ofL_data]⟩
          have HK : Aside0 (k = n) := ⟨by have := HKN.out; omega⟩
          clear hinv ho hy hxm hxi hdrop hgp hx
          go_wp2_with fail
          go_quiet (fail)
          have HS := Aside0.mk (HS.out.below (pw_below_drewN (Below.refl _ _) nq))
          clear c2 c3 g0 i0 i1 i2
          generalize World.drewN _ nq = wq at HS ⊢
          obtain ⟨c2, c3, g0⟩ := HIT _ _ _ HS.out
          obtain ⟨i0, i1, i2⟩ := HI2 _ _ _ HS.out
          go_wp2_with fail
          go_quiet (fail)
          have HS := Aside0.mk (HS.out.below (pw_below_drewN (Below.refl _ _) nq))
          clear c2 c3 g0 i0 i1 i2
          generalize World.drewN _ nq = wq at HS ⊢
          obtain ⟨c2, c3, g0⟩ := HIT _ _ _ HS.out
          obtain ⟨i0, i1, i2⟩ := HI2 _ _ _ HS.out
          go_wp2_with (go_at_call 62; refine (HS.out.str _ (by first | (with_reducible assumption) | decide) (by with_reducible assumption)).mono ?_; rintro e w2 ⟨v2, rfl, hb2⟩; have HS := Aside0.mk hb2; clear hb2; obtain ⟨c2, c3, g0⟩ := HIT _ _ _ HS.out)
          go_ret
          exact ⟨by rw [HK.out]; rfl, HS.out.norm HE.out⟩
        · dsimp only at hx ho
          subst hx
          have HEY := fun W => Aside0.mk (esc_c yt hys W)
          have HBY := fun W => Aside0.mk (br_c yt hys W)
          have HO := Aside0.mk ho
          have HL3 := Aside0.mk hl3
          clear hinv hl3 ho hy hxm hxi hdrop hgp
          go_wp2_with fail
          go_quiet (fail)
          have HS := Aside0.mk (HS.out.below (pw_below_drewN (Below.refl _ _) nq))
          clear c2 c3 g0 i0 i1 i2
          generalize World.drewN _ nq = wq at HS ⊢
          obtain ⟨c2, c3, g0⟩ := HIT _ _ _ HS.out
          obtain ⟨i0, i1, i2⟩ := HI2 _ _ _ HS.out
          go_wp2_with (first
            | (go_at_call 62; refine (HS.out.str _ (by first | (with_reducible assumption) | decide) (by with_reducible assumption)).mono ?_; rintro e w2 ⟨v2, rfl, hb2⟩; have HS := Aside0.mk hb2; clear hb2; obtain ⟨c2, c3, g0⟩ := HIT _ _ _ HS.out; obtain ⟨i0, i1, i2⟩ := HI2 _ _ _ HS.out)
            | (go_at_call 63; refine (HEY _).out.mono ?_; rintro e w2 ⟨rfl, hb2⟩; have HS := Aside0.mk (HS.out.below hb2); clear hb2; obtain ⟨c2, c3, g0⟩ := HIT _ _ _ HS.out; obtain ⟨i0, i1, i2⟩ := HI2 _ _ _ HS.out)
            | (go_at_call 66; refine (HBY _).out.mono ?_; rintro e w2 ⟨rfl, hb2⟩; have HS := Aside0.mk (HS.out.below hb2); clear hb2; obtain ⟨c2, c3, g0⟩ := HIT _ _ _ HS.out; obtain ⟨i0, i1, i2⟩ := HI2 _ _ _ HS.out))
          have HE : Aside0 (A2 ++ P ++ (ofL (pre yl)).data.toList ++ [32, 32, 60, 108, 105, 62] ++ yt.data.toList ++ [60, 47, 108, 105, 62, 10] = A2 ++ (P ++ liL yl yt)) := ⟨by unfold liL; simp [ofL_data]⟩
          have HN := Aside0.mk (HS.out.norm HE.out)
          go_roundw
          case rel =>
            exact ⟨p + 1, k + 1, h3, n3, o3, P ++ liL yl yt, congrArg (Value.int .i64) (show ((k + 1 : Nat) : Int) = (k : Int) + 1 by omega), congrArg (Value.int .i64) (show ((p + 1 : Nat) : Int) = (p : Int) + 1 by omega), by have := HPK.out; omega, by omega, by omega, by have := HKN.out; omega, HL3, ⟨by rw [List.append_assoc, ← HO.out]; exact HP.out⟩, HN⟩
          case measure =>
            show its.length - ((p : Int) + 1).toNat < its.length - (p : Int).toNat
            omega
        · dsimp only at hx ho hl3 hl4
          have hd3 : decide ((yl : Int) = (lv : Int)) = false := decide_eq_false (by omega)
          have hd4 : ((yl : Int) == (lv : Int)) = false := beq_eq_false_iff_ne.2 (by omega)
          have hd5 : decide ((yl : Int) > (lv : Int)) = true := decide_eq_true (by omega)
          have hd8 : decide (lv < yl) = true := decide_eq_true (by omega)
          have hd9 : decide (yl = lv) = false := decide_eq_false (by omega)
          have hnl := hl3.le
          rw [← hdrop] at hl3 hl4 hnl
          rw [List.drop_drop] at hl4
          rw [List.length_drop] at hnl
          have hbd : (A2 ++ P).length + (ulO cl yl ++ o3 ++ ulC yl).length ≤ 1000000000000 := by
            have e1 := HA2L.out
            have e2 := congrArg List.length HP.out
            rw [ho] at e2
            simp only [List.length_append] at e1 e2 ⊢
            omega
          have HCL : ∀ W1, HB q gs its cl ad c Bb W0 (A2 ++ P) m0 W1 → Aside0 (Calls Try.prog 48 #[.pointer (some ⟨q, 0, none⟩), .pointer (some ⟨Bb, 0, none⟩), .int .i64 (p : Int), .pointer (some ⟨gp, 0, none⟩)] W1 fun e w' => e = .returned (.int .i64 (n3 : Int)) ∧ HB q gs its cl ad c Bb W0 (A2 ++ P ++ (ulO cl yl ++ o3 ++ ulC yl)) (A2 ++ P ++ (ulO cl yl ++ o3 ++ ulC yl)).length w') := fun W1 h1 => Aside0.mk (by
            rw [hgp]
            exact IH.out h3 (by omega) p (yl, yt) o3 n3 (A2 ++ P) W1 hxi hl3 (h1.norm rfl) hbd)
          obtain ⟨A4, hA4⟩ : ∃ A4, A4 = A2 ++ P ++ (ulO cl yl ++ o3 ++ ulC yl) := ⟨_, rfl⟩
          have hb4 : A4.length ≤ 10000000000000 := by rw [hA4, List.length_append]; omega
          rw [← hA4] at HCL
          have HE : Aside0 (A4 ++ [10] = A2 ++ (P ++ (ulO cl yl ++ o3 ++ ulC yl ++ [10]))) := ⟨by rw [hA4]; simp⟩
          have hd6 : decide ((k : Int) + (n3 : Int) > 0) = true := decide_eq_true (by omega)
          have hd7 : decide (0 < (k : Int) + (n3 : Int)) = true := hd6
          have hn31 : n3 ≤ 1000000 := by omega
          have HO := Aside0.mk ho
          have HL4 := Aside0.mk hl4
          have hpn : p + n3 ≤ its.length := by omega
          clear hinv ho hy hxm hxi hdrop hgp hx hl3 hl4 hA4 hbd hnl
          go_wp2_with fail
          go_quiet (fail)
          have HS := Aside0.mk (HS.out.below (pw_below_drewN (Below.refl _ _) nq))
          clear c2 c3 g0 i0 i1 i2
          generalize World.drewN _ nq = wq at HS ⊢
          obtain ⟨c2, c3, g0⟩ := HIT _ _ _ HS.out
          obtain ⟨i0, i1, i2⟩ := HI2 _ _ _ HS.out
          go_wp2_with fail
          go_quiet (fail)
          have HS := Aside0.mk (HS.out.below (pw_below_drewN (Below.refl _ _) nq))
          clear c2 c3 g0 i0 i1 i2
          generalize World.drewN _ nq = wq at HS ⊢
          obtain ⟨c2, c3, g0⟩ := HIT _ _ _ HS.out
          obtain ⟨i0, i1, i2⟩ := HI2 _ _ _ HS.out
          go_wp2_with (first
            | (go_at_call 48; refine (HCL _ HS.out).out.mono ?_; rintro e w2 ⟨rfl, hb2⟩; have HS4 := Aside0.mk hb2; clear hb2)
            | (go_at_call 64; refine (HS4.out.rune 10 (by decide) 10 rfl hb4).mono ?_; rintro e w3 ⟨v3, rfl, hb3⟩; have HS5 := Aside0.mk hb3; clear hb3))
          have HN := Aside0.mk (HS5.out.norm HE.out)
          go_roundw
          case rel => exact ⟨p + n3, k + n3, h4, n4, o4, P ++ (ulO cl yl ++ o3 ++ ulC yl ++ [10]), congrArg (Value.int .i64) (show ((k + n3 : Nat) : Int) = (k : Int) + (n3 : Int) by omega), congrArg (Value.int .i64) (show ((p + n3 : Nat) : Int) = (p : Int) + ((n3 : Int) - 1) + 1 by omega), by have := HPK.out; omega, hpn, by omega, by have := HKN.out; omega, HL4, ⟨by rw [List.append_assoc, ← HP.out, HO.out]⟩, HN⟩
          case measure =>
            show its.length - ((p : Int) + ((n3 : Int) - 1) + 1).toNat < its.length - (p : Int).toNat
            omega
      · have hdn : decide ((p : Int) < (its.length : Int)) = false := decide_eq_false (by omega)
        have hnil : its.drop p = [] := List.drop_eq_nil_of_le (by omega)
        have hinv := HL2.out
        rw [hnil] at hinv
        obtain ⟨ho, hn2⟩ := hinv.inv_nil
        have HE : Aside0 (A2 ++ P ++ (ofL (pre lv)).data.toList ++ [60, 47, 117, 108, 62] = acc ++ (ulO cl lv ++ o ++ ulC lv)) := ⟨by rw [HA2.out, ← HP.out, ho]; unfold ulC; simp [ofL_data]⟩
        have HK : Aside0 (k = n) := ⟨by have := HKN.out; omega⟩
        clear hinv ho hnil
        go_wp2_with (go_at_call 62; refine (HS.out.str _ (by first | (with_reducible assumption) | decide) (by with_reducible assumption)).mono ?_; rintro e w2 ⟨v2, rfl, hb2⟩; have HS := Aside0.mk hb2; clear hb2; obtain ⟨c2, c3, g0⟩ := HIT _ _ _ HS.out)
        go_ret
        exact ⟨by rw [HK.out]; rfl, HS.out.norm HE.out⟩
end
end Go.Proofs.Ytphnnbbgcnilgaa.HtB
