/-
  Proved: plain laws of the runes of a text: what stripping escape sequences leaves of known texts and of sequences. Conditions: each theorem's own.
-/
import Derived.Test.YtkfkhafmgndgaaaRRDoorSimple
import Derived.Test.YtkfkhafmgndgaaaRRDoorColor
import Derived.Lib.MapLaws
import Derived.Lib.TrimAscii
namespace Go.Proofs.YtkfkhafmgndgaaaRRDoor.StripPlain
open Go.RowKit Go.Lib Go.Proofs.YtkfkhafmgndgaaaRRDoor.Simple Go.Proofs.YtkfkhafmgndgaaaRRDoor.Strip Go.Proofs.YtkfkhafmgndgaaaRRDoor.Color
set_option linter.unusedVariables false
set_option linter.unusedSimpArgs false

theorem get_app (l b : List UInt8) (i : Nat) (h : i < l.length) : (l ++ b).getD i 0 = l.getD i 0 := by
  simp [List.getD_eq_getElem?_getD, List.getElem?_append_left h]
theorem decode_app (l b : List UInt8) (hne : l ≠ []) (hv : (decodeL l).1 ≠ 65533) : decodeL (l ++ b) = decodeL l := by
  have hl : 0 < l.length := List.length_pos_iff.2 hne
  rw [decodeL_N] at hv
  rw [decodeL_N (l ++ b), decodeL_N l, get_app l b 0 hl, List.length_append]
  obtain ⟨h0, e⟩ | ⟨h0, h1, h2, h3, e⟩ | ⟨h0, h1, h2, h3, h4, h5, e⟩ | ⟨h0, h1, h2, h3, h4, h5, h6, e⟩ | e := decodeN_shape l.length (l.getD 0 0).toNat (l.getD 1 0).toNat (l.getD 2 0).toNat (l.getD 3 0).toNat
  · rw [e]; unfold decodeN; rw [if_pos h0]
  · rw [e, get_app l b 1 h1]
    unfold decodeN
    rw [if_neg (by omega), if_pos ⟨h0, by omega, h2⟩, if_pos h3]
  · rw [e, get_app l b 1 (by omega), get_app l b 2 h1]
    unfold decodeN
    rw [if_neg (by omega), if_neg (by omega), if_pos ⟨h0, ⟨by omega, h2⟩, ⟨by omega, h3⟩⟩, if_pos ⟨h4, by omega⟩]
  · rw [e, get_app l b 1 (by omega), get_app l b 2 (by omega), get_app l b 3 h1]
    unfold decodeN
    rw [if_neg (by omega), if_neg (by omega), if_neg (by omega), if_pos ⟨h0, ⟨by omega, h2⟩, ⟨by omega, h3⟩, ⟨by omega, h4⟩⟩, if_pos ⟨h5, by omega⟩]
  · rw [e] at hv; exact absurd rfl hv

/-! ### over lists of bytes -/
def stripL : Nat → List UInt8 → Bool → List UInt8
  | 0, _, _ => []
  | f + 1, l, esc => if l = [] then [] else
      (if (decodeL l).1 = 27 then stripL f (l.drop (decodeL l).2) true
       else if esc = true then stripL f (l.drop (decodeL l).2) (decide ¬ (decodeL l).1 = 109)
       else encodeRune (decodeL l).1 ++ stripL f (l.drop (decodeL l).2) false)
def simpleL (lines : Bool) : Nat → List UInt8 → Bool
  | 0, _ => true
  | f + 1, l => if l = [] then true else
      (if known (decodeL l).1 = true ∨ (lines = true ∧ (decodeL l).1 = 10) then simpleL lines f (l.drop (decodeL l).2) else false)
theorem drop_nil_iff (s : ByteArray) (pos : Nat) : s.data.toList.drop pos = [] ↔ ¬ pos < s.size := by
  rw [List.drop_eq_nil_iff]
  show s.data.toList.length ≤ pos ↔ _
  rw [Array.length_toList]
  show s.size ≤ pos ↔ _
  omega
theorem strip_list (s : ByteArray) (f : Nat) : ∀ pos esc, stripFrom s f pos esc = stripL f (s.data.toList.drop pos) esc := by
  induction f with
  | zero => intro pos esc; rfl
  | succ f ih =>
    intro pos esc
    unfold stripFrom stripL
    rw [decodeL_drop]
    by_cases h : pos < s.size
    · have h' : ¬ s.data.toList.drop pos = [] := by rw [drop_nil_iff]; simpa using h
      rw [if_pos h, if_neg h', ih, ih, ih, List.drop_drop]
    · rw [if_neg h, if_pos ((drop_nil_iff s pos).2 h)]
theorem simple_list (s : ByteArray) (lines : Bool) (f : Nat) : ∀ pos, simpleFrom s lines f pos = simpleL lines f (s.data.toList.drop pos) := by
  induction f with
  | zero => intro pos; rfl
  | succ f ih =>
    intro pos
    unfold simpleFrom simpleL
    rw [decodeL_drop]
    by_cases h : pos < s.size
    · have h' : ¬ s.data.toList.drop pos = [] := by rw [drop_nil_iff]; simpa using h
      rw [if_pos h, if_neg h', ih, List.drop_drop]
    · rw [if_neg h, if_pos ((drop_nil_iff s pos).2 h)]
theorem strip_eq (s : ByteArray) : strip s = stripL s.size s.data.toList false := by
  unfold strip; rw [strip_list]; rfl
theorem simple_eq (s : ByteArray) (lines : Bool) : simple s lines = simpleL lines s.size s.data.toList := by
  unfold simple; rw [simple_list]; rfl
theorem known_no (r : Nat) (h : known (r : Int) = true) : r ≠ 27 ∧ r ≠ 65533 := by
  constructor
  · rintro rfl; revert h; decide
  · rintro rfl; revert h; decide

theorem strip_text (f : Nat) : ∀ (l b : List UInt8) (g : Nat), simpleL true f l = true → l.length ≤ f → (l ++ b).length ≤ g → ∃ g', b.length ≤ g' ∧ stripL g (l ++ b) false = l ++ stripL g' b false := by
  induction f with
  | zero =>
    intro l b g _ hl hg
    obtain rfl : l = [] := List.length_eq_zero_iff.1 (by omega)
    exact ⟨g, by simpa using hg, rfl⟩
  | succ f ih =>
    intro l b g hs hl hg
    by_cases hne : l = []
    · subst hne
      exact ⟨g, by simpa using hg, rfl⟩
    · unfold simpleL at hs
      rw [if_neg hne] at hs
      split at hs
      · rename_i hk
        have hr : (decodeL l).1 ≠ 27 ∧ (decodeL l).1 ≠ 65533 := by
          rcases hk with h | ⟨_, h⟩
          · exact known_no _ h
          · rw [h]; omega
        have hw := decodeL_width l
        have hle := decodeL_le l hne
        have hlen := List.length_pos_iff.2 hne
        rw [List.length_append] at hg
        obtain ⟨g0, rfl⟩ : ∃ g0, g = g0 + 1 := ⟨g - 1, by omega⟩
        have hd := decode_app l b hne hr.2
        obtain ⟨g', hg', e⟩ := ih (l.drop (decodeL l).2) b g0 hs (by rw [List.length_drop]; omega) (by rw [List.length_append, List.length_drop]; omega)
        refine ⟨g', hg', ?_⟩
        rw [stripL, if_neg (by simp [hne]), hd, if_neg hr.1, if_neg (by simp), encode_decode l hne (fun h => hr.2 h.1), List.drop_append_of_le_length hle, e, ← List.append_assoc, List.take_append_drop]
      · cases hs

def Mid (x : UInt8) : Prop := x.toNat < 128 ∧ x.toNat ≠ 27 ∧ x.toNat ≠ 109
theorem strip_mid (m : List UInt8) : ∀ (b : List UInt8) (g : Nat), (∀ x ∈ m, Mid x) → (m ++ 109 :: b).length ≤ g → ∃ g', b.length ≤ g' ∧ stripL g (m ++ 109 :: b) true = stripL g' b false := by
  induction m with
  | nil =>
    intro b g _ hg
    obtain ⟨g0, rfl⟩ : ∃ g0, g = g0 + 1 := ⟨g - 1, by simp at hg; omega⟩
    refine ⟨g0, by simp at hg; omega, ?_⟩
    rw [List.nil_append, stripL, if_neg (by simp), decodeL_ascii 109 b (by decide)]
    rfl
  | cons x m ih =>
    intro b g hm hg
    obtain ⟨g0, rfl⟩ : ∃ g0, g = g0 + 1 := ⟨g - 1, by simp at hg; omega⟩
    have hx := hm x (by simp)
    obtain ⟨g', hg', e⟩ := ih b g0 (fun y hy => hm y (by simp [hy])) (by simp at hg ⊢; omega)
    refine ⟨g', hg', ?_⟩
    rw [List.cons_append, stripL, if_neg (by simp), decodeL_ascii x _ hx.1]
    simp only [List.drop_succ_cons, List.drop_zero]
    rw [if_neg hx.2.1, if_pos trivial, decide_eq_true hx.2.2, e]
theorem strip_seq (m b : List UInt8) (g : Nat) (hm : ∀ x ∈ m, Mid x) (hg : (27 :: (m ++ 109 :: b)).length ≤ g) : ∃ g', b.length ≤ g' ∧ stripL g (27 :: (m ++ 109 :: b)) false = stripL g' b false := by
  obtain ⟨g0, rfl⟩ : ∃ g0, g = g0 + 1 := ⟨g - 1, by simp at hg; omega⟩
  obtain ⟨g', hg', e⟩ := strip_mid m b g0 hm (by simp at hg ⊢; omega)
  refine ⟨g', hg', ?_⟩
  rw [stripL, if_neg (by simp), decodeL_ascii 27 _ (by decide)]
  simp only [List.drop_succ_cons, List.drop_zero]
  exact e

/-! ### sequences -/
theorem dec_mid (n : Nat) : ∀ x ∈ decDigits n, Mid x := by
  intro x hx
  rw [decDigits_eq] at hx
  obtain ⟨t, _, rfl⟩ := List.mem_map.1 hx
  have h : n / 10 ^ (nDigits n - 1 - t) % 10 < 10 := Nat.mod_lt _ (by omega)
  unfold dg Mid
  rw [UInt8.toNat_ofNat']
  omega
theorem it_mid (c : Int) (h : 0 ≤ c) : ∀ x ∈ (itB c).data.toList, Mid x := by
  intro x hx
  obtain ⟨n, rfl⟩ := Int.eq_ofNat_of_zero_le h
  unfold itB at hx
  rw [itoa_nonneg] at hx
  exact dec_mid n x (by simpa using hx)
def OkB (acc : ByteArray) : Prop := ∃ m, acc.data.toList = 27 :: m ∧ ∀ x ∈ m, Mid x
theorem step_ok (k : Nat) (acc : ByteArray) (c : Int) (h : 0 ≤ c) (ha : OkB acc) : OkB (stepB k acc c) := by
  obtain ⟨m, hm, hM⟩ := ha
  unfold stepB
  split
  · refine ⟨m ++ (59 :: (itB c).data.toList), by simp [ByteArray.data_append, hm], ?_⟩
    intro x hx
    rcases List.mem_append.1 hx with hx | hx
    · exact hM x hx
    · rcases List.mem_cons.1 hx with rfl | hx
      · exact ⟨by decide, by decide, by decide⟩
      · exact it_mid c h x hx
  · refine ⟨m ++ (itB c).data.toList, by simp [ByteArray.data_append, hm], ?_⟩
    intro x hx
    rcases List.mem_append.1 hx with hx | hx
    · exact hM x hx
    · exact it_mid c h x hx
theorem seqT_ok (l : List Int) : ∀ (k : Nat) (acc : ByteArray), (∀ c ∈ l, 0 ≤ c) → OkB acc → OkB (seqT k l acc) := by
  induction l with
  | nil => intro k acc _ h; exact h
  | cons c l ih => intro k acc hc h; exact ih (k + 1) _ (fun d hd => hc d (by simp [hd])) (step_ok k acc c (hc c (by simp)) h)
theorem seqT_size (l : List Int) : ∀ (k : Nat) (acc : ByteArray), (∀ c ∈ l, I64 c) → (seqT k l acc).size ≤ acc.size + 22 * l.length := by
  induction l with
  | nil => intro k acc _; simp [seqT]
  | cons c l ih =>
    intro k acc hc
    have h1 := stepB_size k acc c (hc c (by simp))
    have h2 := ih (k + 1) (stepB k acc c) (fun d hd => hc d (by simp [hd]))
    rw [seqT, List.length_cons]
    omega
theorem seqB_bytes (l : List Int) (h : ∀ c ∈ l, 0 ≤ c) : (seqB l).data.toList = [] ∨ ∃ m, (seqB l).data.toList = 27 :: (m ++ [109]) ∧ ∀ x ∈ m, Mid x := by
  unfold seqB
  split
  · left; rfl
  · right
    obtain ⟨m, hm, hM⟩ := seqT_ok l 0 ⟨#[27, 91]⟩ h ⟨[91], rfl, fun x hx => by simp at hx; subst hx; exact ⟨by decide, by decide, by decide⟩⟩
    exact ⟨m, by simp [ByteArray.data_append, hm], hM⟩
theorem seqB_size (l : List Int) (h : ∀ c ∈ l, I64 c) (hl : l.length ≤ 4) : (seqB l).size ≤ 100 := by
  unfold seqB
  split
  · exact Nat.zero_le _
  · rw [ByteArray.size_append]
    have := seqT_size l 0 ⟨#[27, 91]⟩ h
    have h2 : (⟨#[27, 91]⟩ : ByteArray).size = 2 := rfl
    have h1 : (⟨#[109]⟩ : ByteArray).size = 1 := rfl
    omega
end Go.Proofs.YtkfkhafmgndgaaaRRDoor.StripPlain
