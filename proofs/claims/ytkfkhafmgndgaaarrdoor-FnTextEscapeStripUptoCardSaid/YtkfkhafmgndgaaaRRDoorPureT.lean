/-
  Proved: what the printed functions on pieces come to (spec.TxGood, TxWritten, TxPlain, zzFits15), and that stripping what is written gives the plain text. Conditions: each theorem's own.
-/
import Derived.Test.YtkfkhafmgndgaaaRRDoorStripPlain
import Derived.Test.YtkfkhafmgndgaaaRRDoorGTx
import Derived.Test.YtkfkhafmgndgaaaRRDoorCommon
namespace Go.Proofs.YtkfkhafmgndgaaaRRDoor.PureT
set_option linter.unusedVariables false
set_option linter.unusedSimpArgs false
open Go.RowKit Go.Proofs.YtkfkhafmgndgaaaRRDoorW.PrintWords Go.Proofs.YtkfkhafmgndgaaaRRDoor.GT Go.Proofs.YtkfkhafmgndgaaaRRDoor.Given Go.Proofs.YtkfkhafmgndgaaaRRDoor.Common Go.Proofs.YtkfkhafmgndgaaaRRDoor.StripPlain Go.Proofs.YtkfkhafmgndgaaaRRDoor.Color Go.Proofs.YtkfkhafmgndgaaaRRDoor.Simple Go.Proofs.YtkfkhafmgndgaaaRRDoor.Strip

theorem rdT (l : List S46) (i : Nat) (h : i < l.length) : rd_T46 l (i : Int) = l[i] := by
  unfold rd_T46
  rw [Int.toNat_natCast, List.getD_eq_getElem?_getD, List.getElem?_eq_getElem h]
  rfl
structure PieceOk (b0 : Bool) (p : S46) : Prop where
  simple : simple p.f1 b0 = true
  size : p.f1.size ≤ 500
  few : p.f0.length ≤ 4
  codes : ∀ c ∈ p.f0, 0 ≤ c ∧ c ≤ 107

theorem fits16 (a : List Int) (b : ByteArray) : ∃ r, laws_zzFits16.f a b = some r := by
  unfold laws_zzFits16.f
  repeat' split
  all_goals exact ⟨_, rfl⟩
theorem fits_loop (l : List S46) (hl : l.length ≤ 2147483647) (d : Nat) : ∀ i : Nat, i + d = l.length → ∃ r, Ev (fun k => laws_zzFits15.l0 k l (l.length : Int) (i : Int)) r := by
  induction d with
  | zero =>
    intro i hi
    refine ⟨true, Ev.step (f := fun _ => some true) (fun k => ?_) (Ev.now true)⟩
    simp only [laws_zzFits15.l0]
    rw [if_neg (by omega)]
  | succ d ih =>
    intro i hi
    obtain ⟨t, ht⟩ := fits16 (rd_T46 l (i : Int)).f0 (rd_T46 l (i : Int)).f1
    cases t
    · refine ⟨false, Ev.step (f := fun _ => some false) (fun k => ?_) (Ev.now false)⟩
      simp only [laws_zzFits15.l0]
      rw [if_pos (by omega), if_pos (by omega), if_pos (by omega), ht]
      rfl
    · obtain ⟨r, hr⟩ := ih (i + 1) (by omega)
      refine ⟨r, Ev.step (f := fun k => laws_zzFits15.l0 k l (l.length : Int) ((i + 1 : Nat) : Int)) (fun k => ?_) hr⟩
      simp only [laws_zzFits15.l0]
      rw [if_pos (by omega), if_pos (by omega), if_pos (by omega), ht]
      simp only [Option.bind_some]
      rw [if_pos trivial, w64 _ (by omega) (by omega)]
      rfl
theorem attr (c : Int) : ∃ b, spec_TxAttribute.f c = some b ∧ (b = true → 0 ≤ c ∧ c ≤ 107) := by
  unfold spec_TxAttribute.f
  repeat' split
  all_goals first
    | exact ⟨_, rfl, fun _ => by omega⟩
    | exact ⟨_, rfl, fun h => by cases h⟩
    | exact ⟨_, rfl, fun h => by have h2 := of_decide_eq_true h; omega⟩

theorem codes_loop (b0 : Bool) (l : List S46) (p : S46) (x11 : Int) (hp : p.f0.length ≤ 4) (Q : Prop)
    (hn : ∃ b, Ev (fun k => spec_TxGood.l0 k l b0 l (l.length : Int) (wrap64 (x11 + 1))) b ∧ (b = true → Q)) (d : Nat) :
    ∀ i : Nat, i + d = p.f0.length → ∃ b, Ev (fun k => spec_TxGood.l1 k l b0 l (l.length : Int) x11 p.f0 (p.f0.length : Int) (i : Int) p.f0 p.f1) b ∧ (b = true → Q ∧ ∀ j, i ≤ j → (h : j < p.f0.length) → 0 ≤ p.f0[j] ∧ p.f0[j] ≤ 107) := by
  induction d with
  | zero =>
    intro i hi
    obtain ⟨b, hb, hQ⟩ := hn
    refine ⟨b, Ev.step (f := fun k => spec_TxGood.l0 k l b0 l (l.length : Int) (wrap64 (x11 + 1))) (fun k => ?_) hb, fun h => ⟨hQ h, fun j hj h' => by omega⟩⟩
    simp only [spec_TxGood.l1]
    rw [if_neg (by omega)]
  | succ d ih =>
    intro i hi
    obtain ⟨b, hb, hQ⟩ := ih (i + 1) (by omega)
    obtain ⟨t, ht, hT⟩ := attr (rd p.f0 (i : Int))
    have hrd : rd p.f0 (i : Int) = p.f0[i] := rd_at p.f0 i (by omega)
    cases t
    · by_cases h0 : rd p.f0 (i : Int) = 0
      · by_cases h1 : (p.f0.length : Int) > 1
        · refine ⟨false, Ev.step (f := fun _ => some false) (fun k => ?_) (Ev.now false), fun h => by cases h⟩
          simp only [spec_TxGood.l1]
          rw [if_pos (by omega), if_pos (by omega), if_pos (by omega), ht]
          simp only [Option.bind_some]
          rw [if_neg (by simp), if_pos h0, if_pos h1]
        · refine ⟨b, Ev.step (f := fun k => spec_TxGood.l1 k l b0 l (l.length : Int) x11 p.f0 (p.f0.length : Int) ((i + 1 : Nat) : Int) p.f0 p.f1) (fun k => ?_) hb, fun h => ⟨(hQ h).1, fun j hj h' => ?_⟩⟩
          · simp only [spec_TxGood.l1]
            rw [if_pos (by omega), if_pos (by omega), if_pos (by omega), ht]
            simp only [Option.bind_some]
            rw [if_neg (by simp), if_pos h0, if_neg h1, w64 _ (by omega) (by omega)]
            rfl
          · by_cases hij : i = j
            · subst hij; rw [← hrd, h0]; omega
            · exact (hQ h).2 j (by omega) h'
      · refine ⟨false, Ev.step (f := fun _ => some false) (fun k => ?_) (Ev.now false), fun h => by cases h⟩
        simp only [spec_TxGood.l1]
        rw [if_pos (by omega), if_pos (by omega), if_pos (by omega), ht]
        simp only [Option.bind_some]
        rw [if_neg (by simp), if_neg h0]
    · refine ⟨b, Ev.step (f := fun k => spec_TxGood.l1 k l b0 l (l.length : Int) x11 p.f0 (p.f0.length : Int) ((i + 1 : Nat) : Int) p.f0 p.f1) (fun k => ?_) hb, fun h => ⟨(hQ h).1, fun j hj h' => ?_⟩⟩
      · simp only [spec_TxGood.l1]
        rw [if_pos (by omega), if_pos (by omega), if_pos (by omega), ht]
        simp only [Option.bind_some]
        rw [if_pos trivial, w64 _ (by omega) (by omega)]
        rfl
      · by_cases hij : i = j
        · subst hij; rw [← hrd]; exact hT rfl
        · exact (hQ h).2 j (by omega) h'

theorem j1_false (b0 : Bool) (l : List S46) (x11 : Int) (cs : List Int) (t : ByteArray) : Ev (fun k => spec_TxGood.j1 k l b0 l (l.length : Int) x11 true cs t) false := by
  refine Ev.step (f := fun _ => some false) (fun k => ?_) (Ev.now false)
  simp only [spec_TxGood.j1]
  rw [if_pos trivial]
theorem good_loop (b0 : Bool) (l : List S46) (hl : l.length ≤ 2147483647) (d : Nat) : ∀ i : Nat, i + d = l.length → ∃ b, Ev (fun k => spec_TxGood.l0 k l b0 l (l.length : Int) (i : Int)) b ∧ (b = true → l.length ≤ 40 ∧ ∀ j, i ≤ j → (h : j < l.length) → PieceOk b0 l[j]) := by
  induction d with
  | zero =>
    intro i hi
    refine ⟨decide ((l.length : Int) ≤ 40), Ev.step (f := fun _ => some (decide ((l.length : Int) ≤ 40))) (fun k => ?_) (Ev.now _), fun h => ⟨by simp at h; omega, fun j hj h' => by omega⟩⟩
    simp only [spec_TxGood.l0]
    rw [if_neg (by omega)]
  | succ d ih =>
    intro i hi
    have hrd := rdT l i (by omega)
    obtain ⟨p, hp⟩ : ∃ p, p = l[i] := ⟨_, rfl⟩
    rw [← hp] at hrd
    have hn := ih (i + 1) (by omega)
    rw [show ((i + 1 : Nat) : Int) = wrap64 ((i : Int) + 1) by rw [w64 _ (by omega) (by omega)]; rfl] at hn
    cases hs : simple p.f1 b0
    · refine ⟨false, Ev.step (f := fun k => spec_TxGood.j1 k l b0 l (l.length : Int) (i : Int) true p.f0 p.f1) (fun k => ?_) (j1_false b0 ..), fun h => by cases h⟩
      simp only [spec_TxGood.l0]
      rw [if_pos (by omega), if_pos (by omega), if_pos (by omega), hrd, spec_TxSimple.f, hs]
      simp only [Option.bind_some]
      rw [if_neg (by simp)]
    · by_cases hz : (p.f1.size : Int) > 500
      · refine ⟨false, Ev.step (f := fun k => spec_TxGood.j1 k l b0 l (l.length : Int) (i : Int) true p.f0 p.f1) (fun k => ?_) (j1_false b0 ..), fun h => by cases h⟩
        simp only [spec_TxGood.l0]
        rw [if_pos (by omega), if_pos (by omega), if_pos (by omega), hrd, spec_TxSimple.f, hs]
        simp only [Option.bind_some]
        rw [if_pos trivial, if_pos hz]
      · by_cases h4 : (p.f0.length : Int) > 4
        · refine ⟨false, Ev.step (f := fun k => spec_TxGood.j1 k l b0 l (l.length : Int) (i : Int) true p.f0 p.f1) (fun k => ?_) (j1_false b0 ..), fun h => by cases h⟩
          simp only [spec_TxGood.l0]
          rw [if_pos (by omega), if_pos (by omega), if_pos (by omega), hrd, spec_TxSimple.f, hs]
          simp only [Option.bind_some]
          rw [if_pos trivial, if_neg hz, decide_eq_true h4]
        · obtain ⟨b, hb, hQ⟩ := codes_loop b0 l p (i : Int) (by omega) _ hn p.f0.length 0 (by omega)
          refine ⟨b, Ev.step (f := fun k => spec_TxGood.j1 k l b0 l (l.length : Int) (i : Int) false p.f0 p.f1) (fun k => ?_) (Ev.step (f := fun k => spec_TxGood.l1 k l b0 l (l.length : Int) (i : Int) p.f0 (p.f0.length : Int) ((0 : Nat) : Int) p.f0 p.f1) (fun k => ?_) hb), fun h => ?_⟩
          · simp only [spec_TxGood.l0]
            rw [if_pos (by omega), if_pos (by omega), if_pos (by omega), hrd, spec_TxSimple.f, hs]
            simp only [Option.bind_some]
            rw [if_pos trivial, if_neg hz, decide_eq_false h4]
          · simp only [spec_TxGood.j1]
            rw [if_neg (by simp)]
            rfl
          · obtain ⟨⟨h40, hall⟩, hcs⟩ := hQ h
            refine ⟨h40, fun j hj h' => ?_⟩
            by_cases hij : i = j
            · subst hij
              rw [← hp]
              refine ⟨hs, by omega, by omega, fun c hc => ?_⟩
              obtain ⟨q, hq, rfl⟩ := List.getElem_of_mem hc
              exact hcs q (Nat.zero_le _) hq
            · exact hall j (by omega) h'

/-! ### what is written, what is plain -/
def wr : List S46 → ByteArray → ByteArray
  | [], acc => acc
  | p :: l, acc => wr l (acc ++ (seqB p.f0 ++ p.f1))
def pl : List S46 → ByteArray → ByteArray
  | [], acc => acc
  | p :: l, acc => pl l (acc ++ p.f1)
theorem itoa_some (c : Int) (h : 0 ≤ c ∧ c ≤ 107) : strconv_Itoa.f c = some (itB c) := by
  unfold strconv_Itoa.f
  rw [if_pos ⟨by omega, by omega⟩]
theorem seq_loop (cs : List Int) (h4 : cs.length ≤ 4) (hc : ∀ c ∈ cs, 0 ≤ c ∧ c ≤ 107) (d : Nat) : ∀ (i : Nat) (acc : ByteArray), i + d = cs.length → acc.size ≤ 2 + 22 * i →
    Ev (fun k => spec_TxSequence.l0 k acc cs (cs.length : Int) (i : Int)) (seqT i (cs.drop i) acc ++ ⟨#[109]⟩) := by
  induction d with
  | zero =>
    intro i acc hi ha
    rw [List.drop_eq_nil_of_le (by omega), seqT]
    refine Ev.step (f := fun _ => some (acc ++ ⟨#[109]⟩)) (fun k => ?_) (Ev.now _)
    simp only [spec_TxSequence.l0]
    rw [if_neg (by omega), if_pos (by omega)]
  | succ d ih =>
    intro i acc hi ha
    have hrd : rd cs (i : Int) = cs[i] := rd_at cs i (by omega)
    have hci := hc cs[i] (List.getElem_mem _)
    have h64 : I64 cs[i] := by unfold I64; omega
    have hst := stepB_size i acc cs[i] h64
    have hit := itB_size cs[i] h64
    have h := ih (i + 1) (stepB i acc cs[i]) (by omega) (by omega)
    rw [List.drop_eq_getElem_cons (show i < cs.length by omega), seqT]
    refine Ev.step (f := fun k => spec_TxSequence.l0 k (stepB i acc cs[i]) cs (cs.length : Int) ((i + 1 : Nat) : Int)) (fun k => ?_) h
    simp only [spec_TxSequence.l0]
    rw [if_pos (by omega), if_pos (by omega), if_pos (by omega), hrd, itoa_some _ hci]
    simp only [Option.bind_some]
    have hone : (⟨#[59]⟩ : ByteArray).size = 1 := rfl
    unfold stepB
    by_cases h0 : 0 < i
    · rw [if_pos (show (i : Int) > 0 by omega), if_pos (by omega), if_pos (by rw [ByteArray.size_append, hone]; omega), if_pos h0, w64 _ (by omega) (by omega)]
      rfl
    · rw [if_neg (show ¬ (i : Int) > 0 by omega), if_pos (by omega), if_neg h0, w64 _ (by omega) (by omega)]
      rfl
theorem seq_ev (cs : List Int) (h4 : cs.length ≤ 4) (hc : ∀ c ∈ cs, 0 ≤ c ∧ c ≤ 107) : Ev (fun k => spec_TxSequence.f k cs) (seqB cs) := by
  unfold seqB
  by_cases h0 : cs.length = 0
  · rw [if_pos h0]
    refine Ev.congr (f := fun _ => some ⟨#[]⟩) (fun k => ?_) (Ev.now _)
    unfold spec_TxSequence.f
    rw [if_pos (by omega)]
  · rw [if_neg h0]
    refine Ev.congr (f := fun k => spec_TxSequence.l0 k ⟨#[27, 91]⟩ cs (cs.length : Int) ((0 : Nat) : Int)) (fun k => ?_) (seq_loop cs h4 hc cs.length 0 ⟨#[27, 91]⟩ (by omega) (Nat.le_refl _))
    unfold spec_TxSequence.f
    rw [if_neg (by omega)]
    rfl
theorem seq_small (b0 : Bool) (p : S46) (h : PieceOk b0 p) : (seqB p.f0).size ≤ 100 := seqB_size p.f0 (fun c hc => by have := h.codes c hc; unfold I64; omega) h.few
theorem wr_loop (b0 : Bool) (l : List S46) (hl : l.length ≤ 40) (hok : ∀ j, (h : j < l.length) → PieceOk b0 l[j]) (d : Nat) : ∀ (i : Nat) (acc : ByteArray), i + d = l.length → acc.size ≤ 600 * i →
    Ev (fun k => spec_TxWritten.l0 k acc l (l.length : Int) (i : Int)) (wr (l.drop i) acc) := by
  induction d with
  | zero =>
    intro i acc hi ha
    rw [List.drop_eq_nil_of_le (by omega), wr]
    refine Ev.step (f := fun _ => some acc) (fun k => ?_) (Ev.now _)
    simp only [spec_TxWritten.l0]
    rw [if_neg (by omega)]
  | succ d ih =>
    intro i acc hi ha
    have hrd := rdT l i (by omega)
    have hp := hok i (by omega)
    have hs := seq_small b0 _ hp
    have hz := hp.size
    have e : (acc ++ (seqB l[i].f0 ++ l[i].f1)).size = acc.size + ((seqB l[i].f0).size + l[i].f1.size) := by rw [ByteArray.size_append, ByteArray.size_append]
    have h := ih (i + 1) (acc ++ (seqB l[i].f0 ++ l[i].f1)) (by omega) (by omega)
    rw [List.drop_eq_getElem_cons (show i < l.length by omega), wr]
    refine Ev.step (f := fun k => (spec_TxSequence.f k l[i].f0).bind fun t => if t.size + l[i].f1.size ≤ 9223372036854775807 then (if acc.size + (t ++ l[i].f1).size ≤ 9223372036854775807 then spec_TxWritten.l0 k (acc ++ (t ++ l[i].f1)) l (l.length : Int) ((i + 1 : Nat) : Int) else none) else none) (fun k => ?_) (Ev.bind (seq_ev _ hp.few hp.codes) (Ev.congr (f := fun k => spec_TxWritten.l0 k (acc ++ (seqB l[i].f0 ++ l[i].f1)) l (l.length : Int) ((i + 1 : Nat) : Int)) (fun k => ?_) h))
    · simp only [spec_TxWritten.l0]
      rw [if_pos (by omega), if_pos (by omega), if_pos (by omega), hrd, w64 _ (by omega) (by omega)]
      rfl
    · rw [if_pos (by omega), if_pos (by rw [ByteArray.size_append]; omega)]
theorem pl_loop (b0 : Bool) (l : List S46) (hl : l.length ≤ 40) (hok : ∀ j, (h : j < l.length) → PieceOk b0 l[j]) (d : Nat) : ∀ (i : Nat) (acc : ByteArray), i + d = l.length → acc.size ≤ 600 * i →
    Ev (fun k => spec_TxPlain.l0 k acc l (l.length : Int) (i : Int)) (pl (l.drop i) acc) := by
  induction d with
  | zero =>
    intro i acc hi ha
    rw [List.drop_eq_nil_of_le (by omega), pl]
    refine Ev.step (f := fun _ => some acc) (fun k => ?_) (Ev.now _)
    simp only [spec_TxPlain.l0]
    rw [if_neg (by omega)]
  | succ d ih =>
    intro i acc hi ha
    have hrd := rdT l i (by omega)
    have hp := hok i (by omega)
    have hz := hp.size
    have h := ih (i + 1) (acc ++ l[i].f1) (by omega) (by rw [ByteArray.size_append]; omega)
    rw [List.drop_eq_getElem_cons (show i < l.length by omega), pl]
    refine Ev.step (f := fun k => spec_TxPlain.l0 k (acc ++ l[i].f1) l (l.length : Int) ((i + 1 : Nat) : Int)) (fun k => ?_) h
    simp only [spec_TxPlain.l0]
    rw [if_pos (by omega), if_pos (by omega), if_pos (by omega), hrd, if_pos (by omega), w64 _ (by omega) (by omega)]
    rfl

theorem wr_size (b0 : Bool) (l : List S46) (hok : ∀ p ∈ l, PieceOk b0 p) : ∀ acc, (wr l acc).size ≤ acc.size + 600 * l.length := by
  induction l with
  | nil => intro acc; simp [wr]
  | cons p l ih =>
    intro acc
    have hp := hok p (by simp)
    have h := ih (fun q hq => hok q (by simp [hq])) (acc ++ (seqB p.f0 ++ p.f1))
    have hs := seq_small b0 _ hp
    have hz := hp.size
    rw [ByteArray.size_append, ByteArray.size_append] at h
    rw [wr, List.length_cons]
    omega

/-! ### TxWritten of any pieces whose bulk is small -/
theorem itoa_any (c : Int) (h : I64 c) : strconv_Itoa.f c = some (itB c) := by
  unfold strconv_Itoa.f
  exact if_pos h
theorem seq_loop' (cs : List Int) (h4 : cs.length ≤ 1048576) (hc : ∀ c ∈ cs, I64 c) (d : Nat) : ∀ (i : Nat) (acc : ByteArray), i + d = cs.length → acc.size ≤ 2 + 22 * i →
    Ev (fun k => spec_TxSequence.l0 k acc cs (cs.length : Int) (i : Int)) (seqT i (cs.drop i) acc ++ ⟨#[109]⟩) := by
  induction d with
  | zero =>
    intro i acc hi ha
    rw [List.drop_eq_nil_of_le (by omega), seqT]
    refine Ev.step (f := fun _ => some (acc ++ ⟨#[109]⟩)) (fun k => ?_) (Ev.now _)
    simp only [spec_TxSequence.l0]
    rw [if_neg (by omega), if_pos (by omega)]
  | succ d ih =>
    intro i acc hi ha
    have hrd : rd cs (i : Int) = cs[i] := rd_at cs i (by omega)
    have h64 := hc cs[i] (List.getElem_mem _)
    have hst := stepB_size i acc cs[i] h64
    have hit := itB_size cs[i] h64
    have h := ih (i + 1) (stepB i acc cs[i]) (by omega) (by omega)
    rw [List.drop_eq_getElem_cons (show i < cs.length by omega), seqT]
    refine Ev.step (f := fun k => spec_TxSequence.l0 k (stepB i acc cs[i]) cs (cs.length : Int) ((i + 1 : Nat) : Int)) (fun k => ?_) h
    simp only [spec_TxSequence.l0]
    rw [if_pos (by omega), if_pos (by omega), if_pos (by omega), hrd, itoa_any _ h64]
    simp only [Option.bind_some]
    have hone : (⟨#[59]⟩ : ByteArray).size = 1 := rfl
    unfold stepB
    by_cases h0 : 0 < i
    · rw [if_pos (show (i : Int) > 0 by omega), if_pos (by omega), if_pos (by rw [ByteArray.size_append, hone]; omega), if_pos h0, w64 _ (by omega) (by omega)]
      rfl
    · rw [if_neg (show ¬ (i : Int) > 0 by omega), if_pos (by omega), if_neg h0, w64 _ (by omega) (by omega)]
      rfl
theorem seq_ev' (cs : List Int) (h4 : cs.length ≤ 1048576) (hc : ∀ c ∈ cs, I64 c) : Ev (fun k => spec_TxSequence.f k cs) (seqB cs) := by
  unfold seqB
  by_cases h0 : cs.length = 0
  · rw [if_pos h0]
    refine Ev.congr (f := fun _ => some ⟨#[]⟩) (fun k => ?_) (Ev.now _)
    unfold spec_TxSequence.f
    rw [if_pos (by omega)]
  · rw [if_neg h0]
    refine Ev.congr (f := fun k => spec_TxSequence.l0 k ⟨#[27, 91]⟩ cs (cs.length : Int) ((0 : Nat) : Int)) (fun k => ?_) (seq_loop' cs h4 hc cs.length 0 ⟨#[27, 91]⟩ (by omega) (Nat.le_refl _))
    unfold spec_TxSequence.f
    rw [if_neg (by omega)]
    rfl
theorem seqB_size' (l : List Int) (h : ∀ c ∈ l, I64 c) : (seqB l).size ≤ 3 + 22 * l.length := by
  unfold seqB
  split
  · exact Nat.zero_le _
  · rw [ByteArray.size_append]
    have := seqT_size l 0 ⟨#[27, 91]⟩ h
    have h2 : (⟨#[27, 91]⟩ : ByteArray).size = 2 := rfl
    have h1 : (⟨#[109]⟩ : ByteArray).size = 1 := rfl
    omega
/-- how much the pieces hold -/
def ms : List S46 → Nat
  | [] => 0
  | p :: l => p.f0.length + p.f1.size + 1 + ms l
theorem ms_len (l : List S46) : l.length ≤ ms l := by
  induction l with
  | nil => exact Nat.le_refl _
  | cons p l ih => rw [ms, List.length_cons]; omega
theorem wr_loop' (l : List S46) (hm : ms l ≤ 1048576) (hc : ∀ p ∈ l, ∀ c ∈ p.f0, I64 c) (d : Nat) : ∀ (i : Nat) (acc : ByteArray), i + d = l.length → acc.size + 22 * ms (l.drop i) ≤ 22 * 1048576 →
    Ev (fun k => spec_TxWritten.l0 k acc l (l.length : Int) (i : Int)) (wr (l.drop i) acc) := by
  have hll := ms_len l
  induction d with
  | zero =>
    intro i acc hi ha
    rw [List.drop_eq_nil_of_le (by omega), wr]
    refine Ev.step (f := fun _ => some acc) (fun k => ?_) (Ev.now _)
    simp only [spec_TxWritten.l0]
    rw [if_neg (by omega)]
  | succ d ih =>
    intro i acc hi ha
    have hlt : i < l.length := by omega
    have hrd := rdT l i hlt
    rw [List.drop_eq_getElem_cons hlt, ms] at ha
    have hcp := hc l[i] (List.getElem_mem _)
    have hs := seqB_size' l[i].f0 hcp
    have e : (acc ++ (seqB l[i].f0 ++ l[i].f1)).size = acc.size + ((seqB l[i].f0).size + l[i].f1.size) := by rw [ByteArray.size_append, ByteArray.size_append]
    have h := ih (i + 1) (acc ++ (seqB l[i].f0 ++ l[i].f1)) (by omega) (by omega)
    rw [List.drop_eq_getElem_cons hlt, wr]
    refine Ev.step (f := fun k => (spec_TxSequence.f k l[i].f0).bind fun t => if t.size + l[i].f1.size ≤ 9223372036854775807 then (if acc.size + (t ++ l[i].f1).size ≤ 9223372036854775807 then spec_TxWritten.l0 k (acc ++ (t ++ l[i].f1)) l (l.length : Int) ((i + 1 : Nat) : Int) else none) else none) (fun k => ?_) (Ev.bind (seq_ev' _ (by omega) hcp) (Ev.congr (f := fun k => spec_TxWritten.l0 k (acc ++ (seqB l[i].f0 ++ l[i].f1)) l (l.length : Int) ((i + 1 : Nat) : Int)) (fun k => ?_) h))
    · simp only [spec_TxWritten.l0]
      rw [if_pos (by omega), if_pos (by omega), if_pos (by omega), hrd, w64 _ (by omega) (by omega)]
      rfl
    · rw [if_pos (by omega), if_pos (by rw [ByteArray.size_append]; omega)]
end Go.Proofs.YtkfkhafmgndgaaaRRDoor.PureT
