/-
  Proved: what a format makes of a text of known characters, as a plain function; it has no tab, line feed or carriage return, and at most 1000 bytes. Conditions: known characters, at most 200 bytes.
-/
import Derived.Test.YtphnnbbgcnilgaaDoorBkY
import Derived.Test.YtphnnbbgcnilgaaDoorLstC
import Derived.Shelf.Strings.CaseAny
import Derived.Shelf.Unicode.PredsPay
import Derived.Shelf.Unicode.IsSpaceAny
namespace Go.Proofs.YtphnnbbgcnilgaaDoor.FmA
open Go Go.RowKit Go.Proofs.YtphnnbbgcnilgaaDoorW.PrintWords Go.Proofs.YtphnnbbgcnilgaaDoor.Common Go.Proofs.YtphnnbbgcnilgaaDoor.LstT Go.Proofs.YtphnnbbgcnilgaaDoor.LstN
set_option linter.unusedVariables false
set_option linter.unusedSimpArgs false

/-- a text's characters, all of them valid -/
inductive RsOf : List UInt8 → List Nat → Prop
  | nil : RsOf [] []
  | cons (l : List UInt8) (rs : List Nat) (hne : l ≠ []) (h : RsOf (l.drop (Lib.decodeL l).2) rs) (hv : (Lib.decodeL l).1 ≠ 65533) : RsOf l ((Lib.decodeL l).1 :: rs)
theorem rs_ne {l : List UInt8} {r : Nat} {rs : List Nat} (h : RsOf l (r :: rs)) : l ≠ [] ∧ r = (Lib.decodeL l).1 ∧ RsOf (l.drop (Lib.decodeL l).2) rs ∧ r ≠ 65533 := by
  cases h with
  | cons l rs hne h hv => exact ⟨hne, rfl, h, hv⟩
theorem rs_nil {l : List UInt8} (h : RsOf l []) : l = [] := by
  cases h
  rfl
def mapR (g : Int → Nat → Int) : Int → List Nat → List UInt8
  | _, [] => []
  | p, r :: rs => Lib.encodeRune (g p r) ++ mapR g r rs
def runesOf : Nat → List UInt8 → List Nat
  | 0, _ => []
  | n + 1, l => if l = [] then [] else (Lib.decodeL l).1 :: runesOf n (l.drop (Lib.decodeL l).2)
def runes (s : ByteArray) : List Nat := runesOf s.data.toList.length s.data.toList
theorem runes_from (s : ByteArray) (fuel : Nat) : ∀ pos n, s.size ≤ pos + fuel → (s.data.toList.drop pos).length ≤ n → simpleFrom s false fuel pos = true →
    RsOf (s.data.toList.drop pos) (runesOf n (s.data.toList.drop pos)) ∧ ∀ r ∈ runesOf n (s.data.toList.drop pos), known (r : Int) = true := by
  have hlen : s.data.toList.length = s.size := size_l s
  induction fuel with
  | zero =>
    intro pos n h1 h2 _
    have hd : s.data.toList.drop pos = [] := List.drop_eq_nil_of_le (by omega)
    rw [hd]
    have : runesOf n [] = [] := by cases n <;> simp [runesOf]
    rw [this]
    exact ⟨.nil, fun r hr => by simp at hr⟩
  | succ fuel ih =>
    intro pos n h1 h2 hs
    by_cases hp : pos < s.size
    · rw [simpleFrom, if_pos hp] at hs
      by_cases hk : known (Utf8.decode s pos).1 = true ∨ (false = true ∧ (Utf8.decode s pos).1 = 10)
      · rw [if_pos hk] at hs
        have hk2 : known ((Utf8.decode s pos).1 : Int) = true := hk.elim id (fun h => absurd h.1 (by simp))
        have hne : s.data.toList.drop pos ≠ [] := fun e => by
          have := congrArg List.length e
          rw [List.length_drop, hlen] at this
          simp at this
          omega
        have hw := Lib.width_pos s pos
        obtain ⟨m, rfl⟩ : ∃ m, n = m + 1 := ⟨n - 1, by rw [List.length_drop, hlen] at h2; omega⟩
        have hr := ih (pos + (Utf8.decode s pos).2) m (by omega) (by rw [List.length_drop, hlen] at h2 ⊢; omega) hs
        rw [runesOf, if_neg hne, Lib.decodeL_drop, List.drop_drop]
        refine ⟨?_, fun r h => ?_⟩
        · have := RsOf.cons (s.data.toList.drop pos) (runesOf m (s.data.toList.drop (pos + (Utf8.decode s pos).2))) hne (by rw [Lib.decodeL_drop, List.drop_drop]; exact hr.1) (by
            rw [Lib.decodeL_drop]
            intro e
            rw [e] at hk2
            have := known_bad
            rw [show ((65533 : Nat) : Int) = 65533 from rfl, this] at hk2
            cases hk2)
          rwa [Lib.decodeL_drop] at this
        · rcases List.mem_cons.1 h with rfl | h
          · exact hk2
          · exact hr.2 r h
      · rw [if_neg hk] at hs
        cases hs
    · have hd : s.data.toList.drop pos = [] := List.drop_eq_nil_of_le (by omega)
      rw [hd]
      have : runesOf n [] = [] := by cases n <;> simp [runesOf]
      rw [this]
      exact ⟨.nil, fun r hr => by simp at hr⟩
theorem runes_of (s : ByteArray) (h : simple s false = true) : RsOf s.data.toList (runes s) ∧ ∀ r ∈ runes s, known (r : Int) = true := by
  have := runes_from s s.size 0 s.data.toList.length (by omega) (by simp) h
  simpa [runes] using this
theorem rs_len {l : List UInt8} {rs : List Nat} (h : RsOf l rs) : rs.length ≤ l.length := by
  induction h with
  | nil => simp
  | cons l rs hne h hv ih =>
    have hw := Lib.decodeL_width l
    have := List.length_pos_iff.2 hne
    rw [List.length_drop] at ih
    rw [List.length_cons]
    omega
theorem rs_max {l : List UInt8} {rs : List Nat} (h : RsOf l rs) : ∀ r ∈ rs, r ≤ 1114111 := by
  induction h with
  | nil => simp
  | cons l rs hne h hv ih =>
    intro r hr
    rcases List.mem_cons.1 hr with rfl | hr
    · exact Lib.decodeL_rune l
    · exact ih r hr
theorem known_min (r : Nat) (h : known (r : Int) = true) : 32 ≤ r := by
  rcases Nat.lt_or_ge r 32 with hl | hl
  · have := known_low ⟨r, hl⟩
    rw [this] at h
    cases h
  · exact hl
/-- what lies in a character's code -/
theorem encZ (x : Int) (hx : 14 ≤ x) : ∀ z ∈ Lib.encodeRuneZ x, 14 ≤ z ∧ z ≤ 255 := by
  intro z hz
  have hb := Lib.encodeRuneZ_byte x z hz
  refine ⟨?_, by omega⟩
  unfold Lib.encodeRuneZ at hz
  repeat' split at hz
  all_goals (simp at hz; omega)
theorem enc_ok (x : Int) (hx : 14 ≤ x) : ∀ c ∈ Lib.encodeRune x, c ≠ 9 ∧ c ≠ 10 ∧ c ≠ 13 := by
  intro c hc
  unfold Lib.encodeRune at hc
  obtain ⟨z, hz, rfl⟩ := List.mem_map.1 hc
  obtain ⟨h1, h2⟩ := encZ x hx z hz
  have e : (z.toNat.toUInt8).toNat = z.toNat := by
    rw [Nat.toUInt8, UInt8.toNat_ofNat']
    omega
  refine ⟨fun h => ?_, fun h => ?_, fun h => ?_⟩
  all_goals (rw [h] at e; simp at e; omega)
theorem enc_four (M : Int) : (Lib.encodeRune M).length ≤ 4 := by
  unfold Lib.encodeRune Lib.encodeRuneZ
  rw [List.length_map]
  repeat' split
  all_goals simp
theorem enc_pos (M : Int) : 1 ≤ (Lib.encodeRune M).length := by
  unfold Lib.encodeRune Lib.encodeRuneZ
  rw [List.length_map]
  repeat' split
  all_goals simp
theorem map_ok (g : Int → Nat → Int) (hg : ∀ p (r : Nat), 32 ≤ r → r ≤ 1114111 → 14 ≤ g p r) : ∀ (rs : List Nat) (p : Int), (∀ r ∈ rs, 32 ≤ r ∧ r ≤ 1114111) → (∀ c ∈ mapR g p rs, c ≠ 9 ∧ c ≠ 10 ∧ c ≠ 13) ∧ (mapR g p rs).length ≤ 4 * rs.length
  | [], p, _ => ⟨fun c hc => by simp [mapR] at hc, by simp [mapR]⟩
  | r :: rs, p, h => by
    have h1 := h r (by simp)
    obtain ⟨i1, i2⟩ := map_ok g hg rs r (fun x hx => h x (by simp [hx]))
    have h4 := enc_four (g p r)
    refine ⟨fun c hc => ?_, ?_⟩
    · rw [mapR] at hc
      rcases List.mem_append.1 hc with hc | hc
      · exact enc_ok _ (hg p r h1.1 h1.2) c hc
      · exact i1 c hc
    · rw [mapR, List.length_append, List.length_cons]
      omega
theorem mapD_R (f : Int → Int) {l : List UInt8} {rs : List Nat} (h : RsOf l rs) : (∀ r ∈ rs, 0 ≤ f ((r : Nat) : Int)) → ∀ p, Lib.mapD f l = mapR (fun _ r => f ((r : Nat) : Int)) p rs := by
  induction h with
  | nil => intro _ p; rfl
  | cons l rs hne h hv ih =>
    intro hf p
    rw [Lib.mapD_step f l hne, if_pos (hf _ (by simp)), ih (fun r hr => hf r (by simp [hr])) ((Lib.decodeL l).1 : Int)]
    rfl
/-- a row of the table leaves what is not ASCII above the controls -/
def rowHigh (x : Lib.CaseRow) : Bool := decide (x.2.1 < 128) || [0, 1].all fun c => if x.delta c > 1114111 then decide (14 ≤ x.1) else (decide (14 ≤ (x.1 : Int) + x.delta c) || decide (14 ≤ 128 + x.delta c))
set_option maxRecDepth 1000000 in
theorem rowsHigh : Lib.caseT.all rowHigh = true := by decide
theorem row_high (i : Nat) (hi : i < Lib.caseA.size) : rowHigh (Lib.caseA.getD i (0, 0, 0, 0, 0)) = true := by
  have hm : Lib.caseA.getD i (0, 0, 0, 0, 0) ∈ Lib.caseT := by
    unfold Lib.caseA at hi ⊢
    simp only [List.size_toArray] at hi
    simp [Array.getD, hi]
  exact List.all_eq_true.1 rowsHigh _ hm
theorem toR_high (c : Nat) (hc : c < 2) (r : Int) (h : 128 ≤ r) : 14 ≤ Lib.toR Lib.caseA c r := by
  unfold Lib.toR Lib.lookupGo
  cases hi : Lib.lookupIdx Lib.caseA r (Lib.caseA.size + 1) 0 Lib.caseA.size with
  | none => show 14 ≤ r; omega
  | some i =>
    obtain ⟨hil, hlo, hhi⟩ := Lib.lookupIdx_some Lib.caseA r _ _ _ i hi
    have hx := row_high i hil
    show 14 ≤ Lib.convertR c r (Lib.caseA.getD i (0, 0, 0, 0, 0))
    obtain ⟨x, hxe⟩ : ∃ x, Lib.caseA.getD i (0, 0, 0, 0, 0) = x := ⟨_, rfl⟩
    rw [hxe] at hlo hhi hx ⊢
    simp only [rowHigh, List.all_cons, List.all_nil, Bool.or_eq_true, decide_eq_true_eq, Bool.and_true, Bool.and_eq_true] at hx
    rcases hx with hx | ⟨h0, h1⟩
    · omega
    · have hd : (if x.delta c > 1114111 then decide (14 ≤ x.1) else (decide (14 ≤ (x.1 : Int) + x.delta c) || decide (14 ≤ 128 + x.delta c))) = true := by
        match c, hc with
        | 0, _ => exact h0
        | 1, _ => exact h1
      unfold Lib.convertR
      by_cases hd2 : x.delta c > 1114111
      · rw [if_pos hd2] at hd ⊢
        have := of_decide_eq_true hd
        omega
      · rw [if_neg hd2] at hd ⊢
        simp only [Bool.or_eq_true, decide_eq_true_eq] at hd
        omega
theorem lower_high (r : Nat) (h : 32 ≤ r) : 14 ≤ Lib.toLowerU ((r : Nat) : Int) := by
  unfold Lib.toLowerU
  split
  · split <;> omega
  · exact toR_high 1 (by omega) _ (by omega)
theorem upper_high (r : Nat) (h : 32 ≤ r) : 14 ≤ Lib.toUpperU ((r : Nat) : Int) := by
  unfold Lib.toUpperU
  split
  · split <;> omega
  · exact toR_high 0 (by omega) _ (by omega)
def isSep (r : Int) : Bool := if r ≤ 127 then !(decide (48 ≤ r ∧ r ≤ 57) || decide (97 ≤ r ∧ r ≤ 122) || decide (65 ≤ r ∧ r ≤ 90) || decide (r = 95)) else if (Lib.isLetterU r || Lib.isDigitU r) = true then false else Lib.isSpaceZ r
def gT (p : Int) (x : Nat) : Int := if isSep p = true then Lib.toUpperU ((x : Nat) : Int) else ((x : Nat) : Int)
def gU (_ : Int) (x : Nat) : Int := Lib.toUpperU ((x : Nat) : Int)
def FF (f : Int) (s : ByteArray) : ByteArray := if f = 1 then ofL (Lib.toLowerD s.data.toList) else if f = 2 then ofL (mapR gT 32 (runes s)) else if f = 3 then ofL (mapR gU 0 (runes s)) else s
def kn (s : ByteArray) : Prop := s.size ≤ 200 ∧ simple s false = true
instance (s : ByteArray) : Decidable (kn s) := by unfold kn; infer_instance
def okT (f : Int) (s : ByteArray) : Prop := good s ∧ (f = 0 ∨ kn s)
theorem kn_of (s : ByteArray) (h : kn s) : RsOf s.data.toList (runes s) ∧ (∀ r ∈ runes s, 32 ≤ r ∧ r ≤ 1114111) ∧ (runes s).length ≤ 200 := by
  obtain ⟨h1, h2⟩ := runes_of s h.2
  have h3 := rs_len h1
  rw [size_l] at h3
  exact ⟨h1, fun r hr => ⟨known_min r (h2 r hr), rs_max h1 r hr⟩, by have := h.1; omega⟩
theorem FF_zero (s : ByteArray) : FF 0 s = s := by
  unfold FF
  rw [if_neg (by omega), if_neg (by omega), if_neg (by omega)]
theorem good_map (g : Int → Nat → Int) (hg : ∀ p (r : Nat), 32 ≤ r → r ≤ 1114111 → 14 ≤ g p r) (s : ByteArray) (h : kn s) (p : Int) : good (ofL (mapR g p (runes s))) := by
  obtain ⟨_, h2, h3⟩ := kn_of s h
  obtain ⟨k1, k2⟩ := map_ok g hg (runes s) p h2
  refine ⟨?_, fun c hc => k1 c hc⟩
  show (mapR g p (runes s)).toArray.size ≤ 1000
  rw [List.size_toArray]
  omega
theorem FF_good (f : Int) (s : ByteArray) (h : okT f s) : good (FF f s) := by
  obtain ⟨h1, h2⟩ := h
  rcases h2 with rfl | h2
  · rw [FF_zero]; exact h1
  · unfold FF
    split
    · obtain ⟨k1, k2, _⟩ := kn_of s h2
      unfold Lib.toLowerD
      rw [mapD_R Lib.toLowerU k1 (fun r hr => by have := lower_high r (k2 r hr).1; omega) 0]
      exact good_map (fun _ r => Lib.toLowerU ((r : Nat) : Int)) (fun p r h1 _ => lower_high r h1) s h2 0
    · split
      · exact good_map gT (fun p r h1 _ => by unfold gT; split; exact upper_high r h1; omega) s h2 32
      · split
        · exact good_map gU (fun p r h1 _ => upper_high r h1) s h2 0
        · exact h1
end Go.Proofs.YtphnnbbgcnilgaaDoor.FmA
