/-
  Proved: plain facts on loops that many printed functions have (over any function that goes round as they do). Conditions: sizes below 2^62.
-/
import Derived.Test.YtgemoagbefdemaaWWords
import Derived.Lib.Hide
import Derived.Lib.Strings
import Derived.WideShapes
namespace Go.Proofs.Ytgemoagbefdemaa.Common
open Go.RowKit Go.Proofs.YtgemoagbefdemaaW.PrintWords
set_option linter.unusedVariables false

theorem w64 (x : Int) (h0 : -9223372036854775808 ≤ x) (h1 : x ≤ 9223372036854775807) : wrap64 x = x := by unfold wrap64; omega
theorem rdOf_at {α : Type} (d : α) (l : List α) (i : Nat) (h : i < l.length) : rdOf d l (i : Int) = l[i] := by
  unfold rdOf
  simp [List.getElem?_eq_getElem h]
theorem rd_at (l : List Int) (i : Nat) (h : i < l.length) : rd l (i : Int) = l[i] := by
  unfold rd
  simp [List.getElem?_eq_getElem h]
theorem bt_get (s : ByteArray) (i : Nat) (h : i < s.size) : bt s (i : Int) = ((s.data.toList[i]'(by simpa using h)).toNat : Int) := by
  unfold bt
  rw [dif_pos (by simpa using h)]
  simp
  rfl
theorem tl (s : ByteArray) : s.toList = s.data.toList := ByteArray.toList_eq s
theorem size_l (s : ByteArray) : s.data.toList.length = s.size := by simp

/-! ### zzFits4 -/
section
variable (L : Nat → List ByteArray → Int → Int → Option Bool)
  (hL : ∀ k x8 x9 x10, L (k + 1) x8 x9 x10 = if x10 < x9 then (if 0 ≤ x10 then (if x10 < (x8.length : Int) then (if ((rdOf ByteArray.empty x8 x10).size : Int) > 2147483647 then (some false) else (L k x8 x9 (wrap64 (x10 + 1)))) else (none)) else (none)) else (some true))
include hL
theorem fits_loop (l : List ByteArray) (hl : l.length ≤ 4611686018427387904) (d : Nat) : ∀ i : Nat, i + d = l.length → ∃ b, Ev (fun k => L k l (l.length : Int) (i : Int)) b ∧ (b = true → ∀ s ∈ l.drop i, s.size ≤ 2147483647) := by
  induction d with
  | zero =>
    intro i hi
    refine ⟨true, Ev.step (f := fun _ => some true) (fun k => ?_) (Ev.now true), fun _ s hs => ?_⟩
    · rw [hL, if_neg (by omega)]
    · rw [List.drop_eq_nil_of_le (by omega)] at hs; simp at hs
  | succ d ih =>
    intro i hi
    have hlt : i < l.length := by omega
    by_cases hb : (l[i].size : Int) > 2147483647
    · refine ⟨false, Ev.step (f := fun _ => some false) (fun k => ?_) (Ev.now false), fun h => by cases h⟩
      rw [hL, if_pos (by omega), if_pos (by omega), if_pos (by omega), rdOf_at _ _ _ hlt, if_pos hb]
    · obtain ⟨b, hb', hs⟩ := ih (i + 1) (by omega)
      refine ⟨b, Ev.step (f := fun k => L k l (l.length : Int) ((i + 1 : Nat) : Int)) (fun k => ?_) hb', fun h s hm => ?_⟩
      · rw [hL, if_pos (by omega), if_pos (by omega), if_pos (by omega), rdOf_at _ _ _ hlt, if_neg hb, w64 _ (by omega) (by omega)]
        rfl
      · rw [List.drop_eq_getElem_cons hlt] at hm
        rcases List.mem_cons.1 hm with rfl | hm
        · omega
        · exact hs h s hm
theorem fits4 (F : Nat → List ByteArray → Option Bool) (hF : ∀ k l, F k l = if (l.length : Int) > 2147483647 then (some false) else (L k l (l.length : Int) 0)) (l : List ByteArray) :
    ∃ b, Ev (fun k => F k l) b ∧ (b = true → l.length ≤ 2147483647 ∧ ∀ s ∈ l, s.size ≤ 2147483647) := by
  by_cases h : (l.length : Int) > 2147483647
  · exact ⟨false, ⟨0, fun k _ => by show F k l = _; rw [hF, if_pos h]⟩, fun h => by cases h⟩
  · obtain ⟨b, hb, hs⟩ := fits_loop L hL l (by omega) l.length 0 (by omega)
    refine ⟨b, Ev.congr (fun k => ?_) hb, fun hbt => ⟨by omega, by simpa using hs hbt⟩⟩
    show F k l = _
    rw [hF, if_neg h]
    rfl
end

/-! ### texts -/
def sizes (l : List ByteArray) : Nat := (l.map fun s => s.size + 1).sum
section
variable (L : Nat → List ByteArray → Int → Int → Int → Option Bool)
  (hL : ∀ k x0 x1 x5 x6, L (k + 1) x0 x1 x5 x6 = if x6 < (x0.length : Int) then (if x5 ≤ x1 then (if 0 ≤ x6 then (L k x0 x1 (wrap64 (x5 + (wrap64 (((rdOf ByteArray.empty x0 x6).size : Int) + 1)))) (wrap64 (x6 + 1))) else (none)) else (some (decide (x5 ≤ x1)))) else (some (decide (x5 ≤ x1))))
include hL
theorem texts_loop (l : List ByteArray) (most : Nat) (hm : most ≤ 1000000) (hl : l.length ≤ 2147483647) (hs : ∀ s ∈ l, s.size ≤ 2147483647) (d : Nat) : ∀ i n : Nat, i + d = l.length → n ≤ most + 2147483648 →
    ∃ b, Ev (fun k => L k l (most : Int) (n : Int) (i : Int)) b ∧ (b = true → n + sizes (l.drop i) ≤ most) := by
  induction d with
  | zero =>
    intro i n hi hn
    refine ⟨decide ((n : Int) ≤ (most : Int)), Ev.step (f := fun _ => some (decide ((n : Int) ≤ (most : Int)))) (fun k => ?_) (Ev.now _), fun h => ?_⟩
    · rw [hL, if_neg (by omega)]
    · rw [List.drop_eq_nil_of_le (by omega)]
      have := of_decide_eq_true h
      simp only [sizes, List.map_nil, List.sum_nil]
      omega
  | succ d ih =>
    intro i n hi hn
    have hlt : i < l.length := by omega
    have hsz := hs _ (List.getElem_mem hlt)
    by_cases hb : (n : Int) ≤ (most : Int)
    · obtain ⟨b, hb', h'⟩ := ih (i + 1) (n + (l[i].size + 1)) (by omega) (by omega)
      refine ⟨b, Ev.step (f := fun k => L k l (most : Int) ((n + (l[i].size + 1) : Nat) : Int) ((i + 1 : Nat) : Int)) (fun k => ?_) hb', fun h => ?_⟩
      · rw [hL, if_pos (by omega), if_pos hb, if_pos (by omega), rdOf_at _ _ _ hlt, w64 ((l[i].size : Int) + 1) (by omega) (by omega), w64 _ (by omega) (by omega), w64 _ (by omega) (by omega)]
        congr 1
      · have h2 := h' h
        rw [List.drop_eq_getElem_cons hlt]
        simp only [sizes, List.map_cons, List.sum_cons] at h2 ⊢
        omega
    · refine ⟨false, Ev.step (f := fun _ => some false) (fun k => ?_) (Ev.now _), fun h => by cases h⟩
      rw [hL, if_pos (by omega), if_neg hb, decide_eq_false hb]
theorem texts_ev (F : Nat → List ByteArray → Int → Option Bool) (hF : ∀ k l m, F k l m = L k l m 0 0) (l : List ByteArray) (most : Nat) (hm : most ≤ 1000000) (hl : l.length ≤ 2147483647) (hs : ∀ s ∈ l, s.size ≤ 2147483647) :
    ∃ b, Ev (fun k => F k l (most : Int)) b ∧ (b = true → sizes l ≤ most) := by
  obtain ⟨b, hb, h⟩ := texts_loop L hL l most hm hl hs l.length 0 0 (by omega) (by omega)
  exact ⟨b, Ev.congr (fun k => hF k l most) hb, fun hb' => by simpa using h hb'⟩
end

/-! ### zzIndex -/
/-- where sub stands first -/
def findSub (sub : List UInt8) : List UInt8 → Option Nat
  | [] => if sub = [] then some 0 else none
  | c :: t => if sub.isPrefixOf (c :: t) = true then some 0 else (findSub sub t).map (· + 1)
theorem findSub_short (sub : List UInt8) : ∀ l : List UInt8, l.length < sub.length → findSub sub l = none
  | [], h => by unfold findSub; rw [if_neg (fun e => by subst e; simp at h)]
  | c :: t, h => by
    unfold findSub
    have hp : ¬ sub.isPrefixOf (c :: t) = true := by
      intro hp
      have := (List.isPrefixOf_iff_prefix.1 hp).length_le
      omega
    rw [if_neg hp, findSub_short sub t (by simp at h; omega)]
    rfl
theorem prefix_take (sub l : List UInt8) (h : sub.length ≤ l.length) : (l.take sub.length = sub) ↔ sub.isPrefixOf l = true := by
  rw [List.isPrefixOf_iff_prefix, List.prefix_iff_eq_take]
  exact ⟨fun h => h.symm, fun h => h.symm⟩
def idxOf (sub l : List UInt8) : Int := match findSub sub l with
  | some i => i
  | none => -1
section
variable (L : Nat → ByteArray → ByteArray → Int → Option Int)
  (hL : ∀ k x0 x1 x5, L (k + 1) x0 x1 x5 = if (wrap64 (x5 + (x1.size : Int))) ≤ (x0.size : Int) then (if 0 ≤ x5 then (if x5 ≤ (wrap64 (x5 + (x1.size : Int))) then (if (x0.extract (x5 : Int).toNat ((wrap64 (x5 + (x1.size : Int))) : Int).toNat).toList = x1.toList then (some x5) else (L k x0 x1 (wrap64 (x5 + 1)))) else (none)) else (none)) else (some (-1)))
include hL
theorem index_loop (s sub : ByteArray) (hs : s.size ≤ 4611686018427387904) (hb : sub.size ≤ 2305843009213693952) (d : Nat) : ∀ i : Nat, i + d = s.size →
    Ev (fun k => L k s sub (i : Int)) (match findSub sub.data.toList (s.data.toList.drop i) with | some j => ((i + j : Nat) : Int) | none => -1) := by
  induction d with
  | zero =>
    intro i hi
    have hd : s.data.toList.drop i = [] := List.drop_eq_nil_of_le (by simp; omega)
    rw [hd]
    by_cases h0 : sub.data.toList = []
    · have hz : sub.size = 0 := by rw [← size_l, h0]; rfl
      refine Ev.step (f := fun _ => some (i : Int)) (fun k => ?_) ?_
      · rw [hL, w64 _ (by omega) (by omega), if_pos (by omega), if_pos (by omega), if_pos (by omega), if_pos]
        rw [tl, tl, Lib.extract_data, h0]
        simp
        omega
      · have e : findSub sub.data.toList [] = some 0 := by unfold findSub; rw [if_pos h0]
        rw [e]
        exact Ev.now _
    · have hz : 0 < sub.size := by rw [← size_l]; exact List.length_pos_iff.2 h0
      have e : findSub sub.data.toList [] = none := by unfold findSub; rw [if_neg h0]
      rw [e]
      refine Ev.step (f := fun _ => some (-1)) (fun k => ?_) (Ev.now _)
      rw [hL, w64 _ (by omega) (by omega), if_neg (by omega)]
  | succ d ih =>
    intro i hi
    by_cases hle : i + sub.size ≤ s.size
    · have hlen : sub.data.toList.length ≤ (s.data.toList.drop i).length := by rw [List.length_drop, size_l, size_l]; omega
      have hext : ((s.extract i (i + sub.size)).toList = sub.toList) ↔ sub.data.toList.isPrefixOf (s.data.toList.drop i) = true := by
        rw [← prefix_take _ _ hlen, tl, tl, Lib.extract_data, size_l]
        rw [show i + sub.size - i = sub.size by omega]
      have hw : wrap64 ((i : Int) + (sub.size : Int)) = ((i + sub.size : Nat) : Int) := by rw [w64 _ (by omega) (by omega)]; omega
      have hlt : i < s.data.toList.length := by rw [size_l]; omega
      obtain ⟨c, t, hct⟩ : ∃ c t, s.data.toList.drop i = c :: t := ⟨_, _, List.drop_eq_getElem_cons hlt⟩
      have ht : s.data.toList.drop (i + 1) = t := by rw [← List.drop_drop, hct]; rfl
      by_cases hp : sub.data.toList.isPrefixOf (s.data.toList.drop i) = true
      · refine Ev.step (f := fun _ => some (i : Int)) (fun k => ?_) ?_
        · rw [hL, hw, if_pos (by omega), if_pos (by omega), if_pos (by omega), Int.toNat_natCast, Int.toNat_natCast, if_pos (hext.2 hp)]
        · have e : findSub sub.data.toList (s.data.toList.drop i) = some 0 := by rw [hct] at hp ⊢; unfold findSub; rw [if_pos hp]
          rw [e]
          exact Ev.now _
      · refine Ev.step (f := fun k => L k s sub ((i + 1 : Nat) : Int)) (fun k => ?_) ?_
        · rw [hL, hw, if_pos (by omega), if_pos (by omega), if_pos (by omega), Int.toNat_natCast, Int.toNat_natCast, if_neg (fun h => hp (hext.1 h)), w64 _ (by omega) (by omega)]
          rfl
        · have e : findSub sub.data.toList (s.data.toList.drop i) = (findSub sub.data.toList (s.data.toList.drop (i + 1))).map (· + 1) := by
            rw [ht, hct]; rw [hct] at hp; rw [findSub, if_neg hp]
          have h1 := ih (i + 1) (by omega)
          rw [e]
          cases hf : findSub sub.data.toList (s.data.toList.drop (i + 1)) with
          | none => rw [hf] at h1; exact h1
          | some j => rw [hf] at h1; simpa [Nat.add_assoc, Nat.add_comm 1 j] using h1
    · have e : findSub sub.data.toList (s.data.toList.drop i) = none := findSub_short _ _ (by rw [List.length_drop, size_l, size_l]; omega)
      rw [e]
      refine Ev.step (f := fun _ => some (-1)) (fun k => ?_) (Ev.now _)
      rw [hL, w64 _ (by omega) (by omega), if_neg (by omega)]
theorem index_ev (s sub : ByteArray) (hs : s.size ≤ 4611686018427387904) (hb : sub.size ≤ 2305843009213693952) : Ev (fun k => L k s sub 0) (idxOf sub.data.toList s.data.toList) := by
  have h := index_loop L hL s sub hs hb s.size 0 (by omega)
  unfold idxOf
  cases hf : findSub sub.data.toList s.data.toList with
  | none => rw [List.drop_zero, hf] at h; exact h
  | some j => rw [List.drop_zero, hf] at h; simpa using h
end
theorem findSub_some (sub : List UInt8) : ∀ (l : List UInt8) (j : Nat), findSub sub l = some j → j + sub.length ≤ l.length ∧ l = l.take j ++ sub ++ l.drop (j + sub.length)
  | [], j, h => by
    unfold findSub at h
    split at h
    · rename_i e; subst e; cases h; simp
    · cases h
  | c :: t, j, h => by
    unfold findSub at h
    split at h
    · rename_i e
      cases h
      obtain ⟨r, hr⟩ := List.isPrefixOf_iff_prefix.1 e
      rw [← hr]
      simp
    · obtain ⟨i, hi, rfl⟩ := Option.map_eq_some_iff.1 h
      obtain ⟨h1, h2⟩ := findSub_some sub t i hi
      refine ⟨by simp; omega, ?_⟩
      rw [show i + 1 + sub.length = (i + sub.length) + 1 by omega]
      simp only [List.take_succ_cons, List.drop_succ_cons, List.cons_append]
      rw [← h2]
/-- One byte. -/
theorem findSub_one (c : UInt8) : ∀ l : List UInt8, findSub [c] l = l.findIdx? (· == c)
  | [] => by simp [findSub]
  | d :: t => by
    unfold findSub
    rw [List.findIdx?_cons, findSub_one c t]
    by_cases h : d = c
    · subst h; simp [List.isPrefixOf]
    · have h' : ¬ c = d := fun e => h e.symm
      simp [List.isPrefixOf, h, h']

/-! ### zzSplit -/
/-- the parts between subs (sub not empty) -/
def splitL (sub : List UInt8) : Nat → List UInt8 → List (List UInt8)
  | 0, l => [l]
  | n + 1, l => match findSub sub l with
    | none => [l]
    | some j => l.take j :: splitL sub n (l.drop (j + sub.length))
def ofL (l : List UInt8) : ByteArray := ⟨l.toArray⟩
theorem ofL_data (l : List UInt8) : (ofL l).data.toList = l := rfl
theorem ofL_of (s : ByteArray) : ofL s.data.toList = s := by cases s; rfl
theorem extract_ofL (s : ByteArray) (i j : Nat) : s.extract i j = ofL ((s.data.toList.drop i).take (j - i)) := by
  apply WideShapes.bytes_inj
  rw [Lib.extract_data, ofL_data]
section
variable (X : Nat → ByteArray → ByteArray → Option Int) (L : Nat → ByteArray → ByteArray → List ByteArray → Option (List ByteArray))
  (hX : ∀ s sub : ByteArray, s.size ≤ 4611686018427387904 → sub.size ≤ 2305843009213693952 → Ev (fun k => X k s sub) (idxOf sub.data.toList s.data.toList))
  (hL : ∀ k x0 x1 x5, L (k + 1) x0 x1 x5 = (X k x0 x1).bind fun t104 => (if t104 < 0 then (if x5.length < 8796093022208 then (some (x5 ++ [x0])) else (none)) else (if 0 ≤ t104 then (if t104 ≤ (x0.size : Int) then (if x5.length < 8796093022208 then (if 0 ≤ (wrap64 (t104 + (x1.size : Int))) then (if (wrap64 (t104 + (x1.size : Int))) ≤ (x0.size : Int) then (L k (x0.extract ((wrap64 (t104 + (x1.size : Int))) : Int).toNat x0.size) x1 (x5 ++ [x0.extract 0 (t104 : Int).toNat])) else (none)) else (none)) else (none)) else (none)) else (none))))
include hX hL
theorem split_loop (sub : ByteArray) (h0 : 0 < sub.size) (hb : sub.size ≤ 1152921504606846976) (n : Nat) : ∀ (s : ByteArray) (out : List ByteArray), s.size ≤ n → s.size ≤ 4611686018427387 → out.length + s.size < 8796093022208 →
    Ev (fun k => L k s sub out) (out ++ (splitL sub.data.toList n s.data.toList).map ofL) := by
  induction n with
  | zero =>
    intro s out hn hs ho
    have he : s.data.toList = [] := by rw [← List.length_eq_zero_iff, size_l]; omega
    have hf : findSub sub.data.toList s.data.toList = none := findSub_short _ _ (by rw [size_l, size_l]; omega)
    have hi := hX s sub (by omega) (by omega)
    unfold idxOf at hi
    rw [hf] at hi
    refine Ev.step (fun k => hL k s sub out) (Ev.bind hi ⟨0, fun k _ => ?_⟩)
    simp only [splitL, List.map_cons, List.map_nil, ofL_of]
    rw [if_pos (by omega), if_pos (by omega)]
  | succ n ih =>
    intro s out hn hs ho
    have hi := hX s sub (by omega) (by omega)
    unfold idxOf at hi
    cases hf : findSub sub.data.toList s.data.toList with
    | none =>
      rw [hf] at hi
      refine Ev.step (fun k => hL k s sub out) (Ev.bind hi ⟨0, fun k _ => ?_⟩)
      simp only [splitL, hf, List.map_cons, List.map_nil, ofL_of]
      rw [if_pos (by omega), if_pos (by omega)]
    | some j =>
      rw [hf] at hi
      obtain ⟨hj, _⟩ := findSub_some _ _ _ hf
      rw [size_l, size_l] at hj
      have hw : wrap64 ((j : Int) + (sub.size : Int)) = ((j + sub.size : Nat) : Int) := by rw [w64 _ (by omega) (by omega)]; omega
      have hsz : (s.extract (j + sub.size) s.size).size = s.size - (j + sub.size) := by rw [← size_l, Lib.extract_data, List.length_take, List.length_drop, size_l]; omega
      have hd : (s.extract (j + sub.size) s.size).data.toList = s.data.toList.drop (j + sub.data.toList.length) := by
        rw [Lib.extract_data, size_l, List.take_of_length_le]
        rw [List.length_drop, size_l]; omega
      have h1 := ih (s.extract (j + sub.size) s.size) (out ++ [s.extract 0 j]) (by omega) (by omega) (by rw [List.length_append, hsz]; simp; omega)
      refine Ev.step (fun k => hL k s sub out) (Ev.bind hi ?_)
      refine Ev.congr (fun k => ?_) (f := fun k => L k (s.extract (j + sub.size) s.size) sub (out ++ [s.extract 0 j])) ?_
      · rw [hw]
        simp only [Int.toNat_natCast]
        rw [if_neg (by omega), if_pos (by omega), if_pos (by omega), if_pos (by omega), if_pos (by omega), if_pos (by omega)]
      · have e : splitL sub.data.toList (n + 1) s.data.toList = s.data.toList.take j :: splitL sub.data.toList n (s.data.toList.drop (j + sub.data.toList.length)) := by
          rw [splitL, hf]
        rw [e, List.map_cons]
        rw [hd] at h1
        have e2 : ofL (s.data.toList.take j) = s.extract 0 j := by rw [extract_ofL]; simp
        rw [e2]
        rw [List.append_assoc] at h1
        exact h1
end

/-! ### zzReplaceAll, zzContains -/
def replL (old new : List UInt8) : Nat → List UInt8 → List UInt8
  | 0, l => l
  | n + 1, l => match findSub old l with
    | none => l
    | some j => l.take j ++ new ++ replL old new n (l.drop (j + old.length))
def hasL (sub l : List UInt8) : Bool := (findSub sub l).isSome
theorem str_nums (l : List UInt8) : strOfNums (l.map fun b => (b.toNat : Int)) = ofL l := by
  unfold strOfNums ofL
  congr 2
  rw [List.map_map]
  conv => rhs; rw [← List.map_id l]
  refine List.map_congr_left fun b _ => ?_
  simp
def ofBs (l : List UInt8) : List Int := l.map fun b => (b.toNat : Int)
theorem ofBs_of (s : ByteArray) : bytesOf s = ofBs s.data.toList := rfl
theorem repl_len (old new : List UInt8) (h0 : 0 < old.length) (n : Nat) : ∀ l : List UInt8, (replL old new n l).length ≤ l.length * (new.length + 1) := by
  induction n with
  | zero => intro l; exact Nat.le_mul_of_pos_right _ (by omega)
  | succ n ih =>
    intro l
    have hmul : l.length ≤ l.length * (new.length + 1) := Nat.le_mul_of_pos_right _ (by omega)
    rw [replL]
    cases hf : findSub old l with
    | none => exact hmul
    | some j =>
      obtain ⟨hj, _⟩ := findSub_some _ _ _ hf
      have h1 := ih (l.drop (j + old.length))
      rw [List.length_drop] at h1
      simp only [List.length_append, List.length_take]
      have e : l.length = (l.length - (j + old.length)) + (j + old.length) := by omega
      have h2 : l.length * (new.length + 1) = (l.length - (j + old.length)) * (new.length + 1) + (j + old.length) * (new.length + 1) := by
        rw [← Nat.add_mul, ← e]
      have h3 : j + new.length ≤ (j + old.length) * (new.length + 1) := by
        rw [Nat.add_mul]
        have := Nat.le_mul_of_pos_right j (show 0 < new.length + 1 by omega)
        have := Nat.le_mul_of_pos_left (new.length + 1) h0
        omega
      omega
section
variable (X : Nat → ByteArray → ByteArray → Option Int) (L : Nat → ByteArray → ByteArray → ByteArray → List Int → Option ByteArray)
  (hX : ∀ s sub : ByteArray, s.size ≤ 4611686018427387904 → sub.size ≤ 2305843009213693952 → Ev (fun k => X k s sub) (idxOf sub.data.toList s.data.toList))
  (hL : ∀ k x0 x1 x2 x7, L (k + 1) x0 x1 x2 x7 = (X k x0 x1).bind fun t104 => (if t104 < 0 then (if x7.length + x0.size < 140737488355328 then (some (strOfNums (x7 ++ bytesOf x0))) else (none)) else (if 0 ≤ t104 then (if t104 ≤ (x0.size : Int) then (if x7.length + (x0.extract 0 (t104 : Int).toNat).size < 140737488355328 then ((some (x7 ++ bytesOf (x0.extract 0 (t104 : Int).toNat) : List Int)).bind fun y108 => (if y108.length + x2.size < 140737488355328 then (if 0 ≤ (wrap64 (t104 + (x1.size : Int))) then (if (wrap64 (t104 + (x1.size : Int))) ≤ (x0.size : Int) then (L k (x0.extract ((wrap64 (t104 + (x1.size : Int))) : Int).toNat x0.size) x1 x2 (y108 ++ bytesOf x2)) else (none)) else (none)) else (none))) else (none)) else (none)) else (none))))
include hX hL
theorem repl_loop (old new : ByteArray) (h0 : 0 < old.size) (hb : old.size ≤ 1152921504606846976) (n : Nat) : ∀ (s : ByteArray) (out : List UInt8), s.size ≤ n → s.size ≤ 4611686018427387 → out.length + s.size * (new.size + 1) < 140737488355328 →
    Ev (fun k => L k s old new (ofBs out)) (ofL (out ++ replL old.data.toList new.data.toList n s.data.toList)) := by
  induction n with
  | zero =>
    intro s out hn hs ho
    have hf : findSub old.data.toList s.data.toList = none := findSub_short _ _ (by rw [size_l, size_l]; omega)
    have hi := hX s old (by omega) (by omega)
    unfold idxOf at hi
    rw [hf] at hi
    have hz : s.size = 0 := by omega
    rw [hz] at ho
    refine Ev.step (fun k => hL k s old new (ofBs out)) (Ev.bind hi ⟨0, fun k _ => ?_⟩)
    have hl : (ofBs out).length + s.size < 140737488355328 := by rw [ofBs, List.length_map, hz]; omega
    dsimp only
    rw [if_pos (show (-1 : Int) < 0 by omega), if_pos hl, ofBs_of, ofBs, ofBs, ← List.map_append, str_nums]
    rfl
  | succ n ih =>
    intro s out hn hs ho
    have hi := hX s old (by omega) (by omega)
    unfold idxOf at hi
    have hmul : s.size ≤ s.size * (new.size + 1) := Nat.le_mul_of_pos_right _ (by omega)
    cases hf : findSub old.data.toList s.data.toList with
    | none =>
      rw [hf] at hi
      refine Ev.step (fun k => hL k s old new (ofBs out)) (Ev.bind hi ⟨0, fun k _ => ?_⟩)
      have hl : (ofBs out).length + s.size < 140737488355328 := by rw [ofBs, List.length_map]; omega
      dsimp only
      rw [if_pos (show (-1 : Int) < 0 by omega), if_pos hl, ofBs_of, ofBs, ofBs, ← List.map_append, str_nums, replL, hf]
    | some j =>
      rw [hf] at hi
      obtain ⟨hj, _⟩ := findSub_some _ _ _ hf
      rw [size_l, size_l] at hj
      have hw : wrap64 ((j : Int) + (old.size : Int)) = ((j + old.size : Nat) : Int) := by rw [w64 _ (by omega) (by omega)]; omega
      have hsz : (s.extract (j + old.size) s.size).size = s.size - (j + old.size) := by rw [← size_l, Lib.extract_data, List.length_take, List.length_drop, size_l]; omega
      have hd : (s.extract (j + old.size) s.size).data.toList = s.data.toList.drop (j + old.data.toList.length) := by
        rw [Lib.extract_data, size_l, List.take_of_length_le]
        rw [List.length_drop, size_l]; omega
      have htk : (s.extract 0 j).data.toList = s.data.toList.take j := by rw [Lib.extract_data]; simp
      have htl : (s.extract 0 j).size = j := by rw [← size_l, htk, List.length_take, size_l]; omega
      have harith : j + new.size + (s.size - (j + old.size)) * (new.size + 1) ≤ s.size * (new.size + 1) := by
        have e : s.size = (s.size - (j + old.size)) + (j + old.size) := by omega
        have h1 : s.size * (new.size + 1) = (s.size - (j + old.size)) * (new.size + 1) + (j + old.size) * (new.size + 1) := by
          rw [← Nat.add_mul, ← e]
        have h2 : j + new.size ≤ (j + old.size) * (new.size + 1) := by
          rw [Nat.add_mul]
          have := Nat.le_mul_of_pos_right j (show 0 < new.size + 1 by omega)
          have := Nat.le_mul_of_pos_left (new.size + 1) h0
          omega
        omega
      have h1 := ih (s.extract (j + old.size) s.size) (out ++ s.data.toList.take j ++ new.data.toList) (by omega) (by omega) (by
        rw [List.length_append, List.length_append, hsz, List.length_take, size_l, size_l]
        omega)
      refine Ev.step (fun k => hL k s old new (ofBs out)) (Ev.bind hi ?_)
      refine Ev.congr (fun k => ?_) (f := fun k => L k (s.extract (j + old.size) s.size) old new (ofBs (out ++ s.data.toList.take j ++ new.data.toList))) ?_
      · rw [hw]
        simp only [Int.toNat_natCast]
        have hl : (ofBs out).length = out.length := by rw [ofBs, List.length_map]
        rw [if_neg (show ¬ (j : Int) < 0 by omega), if_pos (show (0 : Int) ≤ (j : Int) by omega), if_pos (show (j : Int) ≤ (s.size : Int) by omega), if_pos (show (ofBs out).length + (s.extract 0 j).size < 140737488355328 by rw [htl, hl]; omega)]
        simp only [Option.bind_some]
        rw [if_pos (by rw [List.length_append, hl, bytesOf_length, htl]; omega), if_pos (by omega), if_pos (by omega), ofBs_of, ofBs_of, htk]
        simp only [ofBs, List.map_append]
      · rw [hd] at h1
        rw [replL, hf]
        simp only [List.append_assoc] at h1 ⊢
        exact h1
theorem repl_ev (F : Nat → ByteArray → ByteArray → ByteArray → Option ByteArray) (hF : ∀ k a0 a1 a2, ¬ (a1.size : Int) = 0 → F k a0 a1 a2 = L k a0 a1 a2 ([] : List Int))
    (s old new : ByteArray) (h0 : 0 < old.size) (hb : old.size ≤ 1152921504606846976) (hs : s.size ≤ 4611686018427387) (ho : s.size * (new.size + 1) < 140737488355328) :
    Ev (fun k => F k s old new) (ofL (replL old.data.toList new.data.toList s.size s.data.toList)) := by
  refine Ev.congr (fun k => ?_) (repl_loop X L hX hL old new h0 hb s.size s [] (Nat.le_refl _) hs (by simpa using ho))
  exact hF k s old new (by omega)
end
theorem has_of_idx (sub l : List UInt8) : decide (idxOf sub l ≥ 0) = hasL sub l := by
  unfold hasL idxOf
  cases findSub sub l with
  | none => rfl
  | some j =>
    simp only [Option.isSome_some]
    rw [decide_eq_true (by omega)]

/-! ### one byte sought, split and replaced -/
theorem has_one (c : UInt8) (l : List UInt8) : hasL [c] l = decide (c ∈ l) := by
  unfold hasL
  rw [findSub_one, List.findIdx?_isSome]
  rw [Bool.eq_iff_iff]
  simp
theorem has_cons (c : UInt8) (sub t : List UInt8) : hasL sub (c :: t) = (sub.isPrefixOf (c :: t) || hasL sub t) := by
  unfold hasL
  conv => lhs; unfold findSub
  by_cases h : sub.isPrefixOf (c :: t) = true
  · rw [if_pos h, h]; rfl
  · rw [if_neg h]
    rw [Bool.eq_false_iff.2 h]
    cases findSub sub t <;> rfl
/-- the lines of a text: the parts between bytes c -/
def partsOf (c : UInt8) : List UInt8 → List (List UInt8)
  | [] => [[]]
  | d :: t => if d = c then [] :: partsOf c t else match partsOf c t with
    | [] => [[d]]
    | l :: r => (d :: l) :: r
theorem partsOf_ne (c : UInt8) (l : List UInt8) : partsOf c l ≠ [] := by
  cases l with
  | nil => simp [partsOf]
  | cons d t =>
    unfold partsOf
    split
    · simp
    · split <;> simp
theorem split_cons (c d : UInt8) (h : d ≠ c) (n : Nat) (t : List UInt8) : splitL [c] n (d :: t) = match splitL [c] n t with | [] => [[d]] | l :: r => (d :: l) :: r := by
  cases n with
  | zero => rfl
  | succ n =>
    have hp : ¬ ([c] : List UInt8).isPrefixOf (d :: t) = true := by simpa [List.isPrefixOf] using fun e => h e.symm
    rw [splitL, splitL]
    conv => lhs; rw [findSub, if_neg hp]
    cases hf : findSub [c] t with
    | none => rfl
    | some j =>
      simp only [Option.map_some, List.take_succ_cons, List.length_singleton]
      rfl
theorem split_parts (c : UInt8) : ∀ (l : List UInt8) (n : Nat), l.length ≤ n → splitL [c] n l = partsOf c l
  | [], n, _ => by
    cases n with
    | zero => rfl
    | succ n => rw [splitL]; unfold findSub; rw [if_neg (by simp)]; rfl
  | d :: t, n, hn => by
    obtain ⟨m, rfl⟩ : ∃ m, n = m + 1 := ⟨n - 1, by simp at hn; omega⟩
    by_cases h : d = c
    · subst h
      rw [splitL, findSub, if_pos (by simp [List.isPrefixOf])]
      simp only [List.take_zero, List.length_singleton, Nat.zero_add, List.drop_succ_cons, List.drop_zero]
      rw [split_parts d t m (by simpa using hn)]
      conv => rhs; rw [partsOf, if_pos rfl]
    · rw [split_cons c d h, split_parts c t (m + 1) (by simp at hn; omega)]
      conv => rhs; rw [partsOf, if_neg h]
theorem repl_cons (old new : List UInt8) (d : UInt8) (t : List UInt8) (hp : ¬ old.isPrefixOf (d :: t) = true) (n : Nat) : replL old new n (d :: t) = d :: replL old new n t := by
  cases n with
  | zero => rfl
  | succ n =>
    rw [replL, replL]
    conv => lhs; rw [findSub, if_neg hp]
    cases hf : findSub old t with
    | none => rfl
    | some j =>
      simp only [Option.map_some, List.take_succ_cons, List.cons_append]
      rw [show j + 1 + old.length = (j + old.length) + 1 by omega, List.drop_succ_cons]
theorem repl_hit (old new : List UInt8) (n : Nat) (l : List UInt8) (h0 : l ≠ []) (hp : old.isPrefixOf l = true) : replL old new (n + 1) l = new ++ replL old new n (l.drop old.length) := by
  cases l with
  | nil => exact absurd rfl h0
  | cons d t =>
    rw [replL, findSub, if_pos hp]
    simp
theorem repl_nil (old new : List UInt8) (h : old ≠ []) (n : Nat) : replL old new n [] = [] := by
  cases n with
  | zero => rfl
  | succ n => rw [replL, findSub, if_neg h]
/-- one byte replaced: each by itself -/
theorem repl_one (c : UInt8) (new : List UInt8) : ∀ (l : List UInt8) (n : Nat), l.length ≤ n → replL [c] new n l = l.flatMap fun d => if d = c then new else [d]
  | [], n, _ => by rw [repl_nil _ _ (by simp)]; rfl
  | d :: t, n, hn => by
    obtain ⟨m, rfl⟩ : ∃ m, n = m + 1 := ⟨n - 1, by simp at hn; omega⟩
    by_cases h : d = c
    · subst h
      rw [repl_hit _ _ _ _ (by simp) (by simp [List.isPrefixOf])]
      simp only [List.length_singleton, List.drop_succ_cons, List.drop_zero, List.flatMap_cons, if_true]
      rw [repl_one d new t m (by simpa using hn)]
    · rw [repl_cons _ _ _ _ (by simpa [List.isPrefixOf] using fun e => h e.symm), repl_one c new t (m + 1) (by simp at hn; omega)]
      simp [List.flatMap_cons, h]
end Go.Proofs.Ytgemoagbefdemaa.Common
