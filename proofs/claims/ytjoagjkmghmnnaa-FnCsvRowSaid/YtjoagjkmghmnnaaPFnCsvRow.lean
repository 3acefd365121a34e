/-
  Proved: the plain law behind Rows.FnCsvRowSaid, over numbers and lists alone. Conditions: none beyond the statement's own.
-/
import Derived.Test.YtjoagjkmghmnnaaRead
import Derived.Test.YtjoagjkmghmnnaaGFnCsvRowx4
namespace Go.Proofs.Ytjoagjkmghmnnaa.PureFnCsvRow
set_option linter.unusedVariables false
open Go.RowKit Go.Proofs.YtjoagjkmghmnnaaW.PrintWords Go.Proofs.Ytjoagjkmghmnnaa.Read Go.Proofs.Ytjoagjkmghmnnaa.GFnCsvRow Go.Proofs.Ytjoagjkmghmnnaa.GivenCsv Go.Proofs.Ytjoagjkmghmnnaa.Common Go.Proofs.Ytjoagjkmghmnnaa.CsvP Go.Proofs.Ytjoagjkmghmnnaa.ItoaAll Go.Proofs.Ytjoagjkmghmnnaa.AnyOf

theorem ofL_size (l : List UInt8) : (ofL l).size = l.length := by rw [← size_l, ofL_data]
theorem ofL_app (a b : List UInt8) : ofL a ++ ofL b = ofL (a ++ b) := by apply WideShapes.bytes_inj; simp [ofL]
/-! ### has -/
theorem has_loop (s sub : ByteArray) (hs : s.size ≤ 1000000) (h0 : 0 < sub.size) (hb : sub.size ≤ 1000000) (d : Nat) : ∀ i : Nat, i + d = s.size → Ev (fun k => spec_has.l0 k s sub (i : Int)) (hasL sub.data.toList (s.data.toList.drop i)) := by
  induction d with
  | zero =>
    intro i hi
    have hf : hasL sub.data.toList (s.data.toList.drop i) = false := by
      rw [hasL, findSub_short _ _ (by rw [List.length_drop, size_l, size_l]; omega)]; rfl
    rw [hf]
    refine Ev.step (f := fun _ => some false) (fun k => ?_) (Ev.now _)
    simp only [spec_has.l0]
    rw [w64 _ (by omega) (by omega), if_neg (by omega)]
  | succ d ih =>
    intro i hi
    by_cases hle : i + sub.size ≤ s.size
    · have hlen : sub.data.toList.length ≤ (s.data.toList.drop i).length := by rw [List.length_drop, size_l, size_l]; omega
      have hext : ((s.extract i (i + sub.size)).toList = sub.toList) ↔ sub.data.toList.isPrefixOf (s.data.toList.drop i) = true := by
        rw [← prefix_take _ _ hlen, tl, tl, Lib.extract_data, size_l, show i + sub.size - i = sub.size by omega]
      have hw : wrap64 ((i : Int) + (sub.size : Int)) = ((i + sub.size : Nat) : Int) := by rw [w64 _ (by omega) (by omega)]; omega
      have hlt : i < s.data.toList.length := by rw [size_l]; omega
      have hd : s.data.toList.drop i = s.data.toList[i] :: s.data.toList.drop (i + 1) := List.drop_eq_getElem_cons hlt
      by_cases hp : sub.data.toList.isPrefixOf (s.data.toList.drop i) = true
      · have hf : hasL sub.data.toList (s.data.toList.drop i) = true := by rw [hd, has_cons, ← hd, hp]; rfl
        rw [hf]
        refine Ev.step (f := fun _ => some true) (fun k => ?_) (Ev.now _)
        simp only [spec_has.l0]
        rw [hw, if_pos (by omega), if_pos (by omega), if_pos (by omega), Int.toNat_natCast, Int.toNat_natCast, if_pos (hext.2 hp)]
      · have hf : hasL sub.data.toList (s.data.toList.drop i) = hasL sub.data.toList (s.data.toList.drop (i + 1)) := by
          rw [hd, has_cons, ← hd, Bool.eq_false_iff.2 hp]; rfl
        rw [hf]
        refine Ev.step (f := fun k => spec_has.l0 k s sub ((i + 1 : Nat) : Int)) (fun k => ?_) (ih (i + 1) (by omega))
        simp only [spec_has.l0]
        rw [hw, if_pos (by omega), if_pos (by omega), if_pos (by omega), Int.toNat_natCast, Int.toNat_natCast, if_neg (fun h => hp (hext.1 h)), w64 _ (by omega) (by omega)]
        rfl
    · have hf : hasL sub.data.toList (s.data.toList.drop i) = false := by
        rw [hasL, findSub_short _ _ (by rw [List.length_drop, size_l, size_l]; omega)]; rfl
      rw [hf]
      refine Ev.step (f := fun _ => some false) (fun k => ?_) (Ev.now _)
      simp only [spec_has.l0]
      rw [w64 _ (by omega) (by omega), if_neg (by omega)]
theorem has_e (s : ByteArray) (c : UInt8) (hs : s.size ≤ 1000000) : Ev (fun k => spec_has.f k s ⟨#[c]⟩) (decide (c ∈ s.data.toList)) := by
  have h := has_loop s ⟨#[c]⟩ hs (by show 0 < 1; omega) (by show 1 ≤ 1000000; omega) s.size 0 (by omega)
  rw [List.drop_zero, show (⟨#[c]⟩ : ByteArray).data.toList = [c] from rfl, has_one] at h
  exact h
/-! ### quoted -/
theorem quoted_loop (s : ByteArray) (hs : s.size ≤ 1000000) (d : Nat) : ∀ (i : Nat) (acc : List UInt8), i + d = s.size → acc.length + 2 * d ≤ 4000000 → Ev (fun k => spec_quoted.l0 k s (ofL acc) (i : Int)) (ofL (acc ++ dup (s.data.toList.drop i) ++ [34])) := by
  induction d with
  | zero =>
    intro i acc hi ha
    rw [List.drop_eq_nil_of_le (by rw [size_l]; omega)]
    refine Ev.step (f := fun _ => some (ofL (acc ++ dup [] ++ [34]))) (fun k => ?_) (Ev.now _)
    simp only [spec_quoted.l0]
    rw [if_neg (by omega), if_pos (by rw [ofL_size]; omega)]
    congr 1
    rw [show (⟨#[34]⟩ : ByteArray) = ofL [34] from rfl, ofL_app]
    simp [dup]
  | succ d ih =>
    intro i acc hi ha
    have hlt : i < s.size := by omega
    have hlt' : i < s.data.toList.length := by rw [size_l]; exact hlt
    obtain ⟨c, hc⟩ : ∃ c, c = s.data.toList[i] := ⟨_, rfl⟩
    have hbt : bt s (i : Int) = (c.toNat : Int) := by rw [bt_get s i hlt, hc]
    have hd : s.data.toList.drop i = c :: s.data.toList.drop (i + 1) := by rw [hc]; exact List.drop_eq_getElem_cons hlt'
    have hw : wrap64 ((i : Int) + 1) = ((i + 1 : Nat) : Int) := by rw [w64 _ (by omega) (by omega)]; rfl
    have hex : s.extract i (i + 1) = ofL [c] := by rw [extract_ofL, hd, show i + 1 - i = 1 by omega]; rfl
    by_cases h34 : c = 34
    · have hb : (c.toNat : Int) = 34 := by rw [h34]; rfl
      have h1 := ih (i + 1) (acc ++ [34] ++ [34]) (by omega) (by simp; omega)
      refine Ev.step (f := fun k => spec_quoted.l0 k s (ofL (acc ++ [34] ++ [34])) ((i + 1 : Nat) : Int)) (fun k => ?_) ?_
      · simp only [spec_quoted.l0]
        rw [if_pos (by omega), if_pos (by omega), hbt, if_pos hb, if_pos (by rw [ofL_size]; omega), hw, if_pos (by omega), if_pos (by omega), Int.toNat_natCast, Int.toNat_natCast, hex, show (⟨#[34]⟩ : ByteArray) = ofL [34] from rfl, ofL_app, ofL_app, if_pos (by rw [ofL_size, ofL_size]; simp; omega), h34]
      · rw [hd, h34]
        have e : acc ++ dup (34 :: s.data.toList.drop (i + 1)) ++ [34] = acc ++ [34] ++ [34] ++ dup (s.data.toList.drop (i + 1)) ++ [34] := by simp [dup]
        rw [e]
        exact h1
    · have hb : ¬ (c.toNat : Int) = 34 := fun e => h34 (UInt8.toNat_inj.1 (by have : (34 : UInt8).toNat = 34 := rfl; omega))
      have h1 := ih (i + 1) (acc ++ [c]) (by omega) (by simp; omega)
      refine Ev.step (f := fun k => spec_quoted.l0 k s (ofL (acc ++ [c])) ((i + 1 : Nat) : Int)) (fun k => ?_) ?_
      · simp only [spec_quoted.l0]
        rw [if_pos (by omega), if_pos (by omega), hbt, if_neg hb, hw, if_pos (by omega), if_pos (by omega), Int.toNat_natCast, Int.toNat_natCast, hex, ofL_app, if_pos (by rw [ofL_size, ofL_size]; simp; omega)]
      · rw [hd]
        have e : acc ++ dup (c :: s.data.toList.drop (i + 1)) ++ [34] = acc ++ [c] ++ dup (s.data.toList.drop (i + 1)) ++ [34] := by simp [dup, h34]
        rw [e]
        exact h1
theorem quoted_e (s : ByteArray) (hs : s.size ≤ 1000000) : Ev (fun k => spec_quoted.f k s) (ofL (34 :: (dup s.data.toList ++ [34]))) := by
  have h := quoted_loop s hs s.size 0 [34] (by omega) (by simp; omega)
  rw [List.drop_zero] at h
  exact h
/-! ### Decimal -/
theorem digit_str (x : Int) (d : Nat) (hd : d < 10) (hx : x = 48 + (d : Int)) : strOfNums ([(wrap64 x) % 256] : List Int) = ofL [UInt8.ofNat (48 + d)] := by
  have e : (wrap64 x) % 256 = ((48 + d : Nat) : Int) := by rw [w64 _ (by omega) (by omega), hx]; omega
  rw [e]
  unfold strOfNums ofL
  rw [List.map_cons, List.map_nil, Int.toNat_natCast]
theorem dec_big (u : Nat) (h : ¬ u < 10) : Lib.decDigits u = Lib.decDigits (u / 10) ++ [UInt8.ofNat (48 + u % 10)] := by rw [Lib.decDigits, dif_neg h]
theorem decimal_e (m : Nat) : ∀ n : Int, n.natAbs ≤ m → -9223372036854775808 ≤ n → n ≤ 9223372036854775807 → Ev (fun k => spec_Decimal.f k n) (ofL (itoaL n)) := by
  induction m using Nat.strongRecOn with
  | _ m ih =>
    intro n hm h0 h1
    have hlen := itoaL_len n h0 h1
    by_cases hn : n < 0
    · have hi : itoaL n = 45 :: Lib.decDigits n.natAbs := by rw [itoaL, if_pos hn]
      by_cases h10 : n > -10
      · refine Ev.step (f := fun _ => some (ofL (itoaL n))) (fun k => ?_) (Ev.now _)
        simp only [spec_Decimal.f]
        rw [if_pos hn, if_pos h10]
        simp only [Option.bind_some]
        rw [digit_str (48 - n) n.natAbs (by omega) (by omega), if_pos (by rw [ofL_size]; simp), show (⟨#[45]⟩ : ByteArray) = ofL [45] from rfl, ofL_app, hi, Lib.decDigits_one (by omega)]
        rfl
      · have hq : wrap64 (Int.tdiv n 10) = -((n.natAbs / 10 : Nat) : Int) := by
          have e : Int.tdiv n 10 = -((n.natAbs / 10 : Nat) : Int) := by
            obtain ⟨u, rfl⟩ : ∃ u : Nat, n = -(u : Int) := ⟨n.natAbs, by omega⟩
            rw [Int.neg_tdiv, Int.natAbs_neg, Int.natAbs_natCast]
            rfl
          rw [e, w64 _ (by omega) (by omega)]
        have hr : 48 - Int.tmod n 10 = 48 + ((n.natAbs % 10 : Nat) : Int) := by
          obtain ⟨u, rfl⟩ : ∃ u : Nat, n = -(u : Int) := ⟨n.natAbs, by omega⟩
          rw [Int.neg_tmod, Int.natAbs_neg, Int.natAbs_natCast, show Int.tmod (u : Int) 10 = ((u % 10 : Nat) : Int) from rfl]
          omega
        have hrec := ih (n.natAbs / 10) (by omega) (-((n.natAbs / 10 : Nat) : Int)) (by omega) (by omega) (by omega)
        have hl2 := itoaL_len (-((n.natAbs / 10 : Nat) : Int)) (by omega) (by omega)
        refine Ev.step (f := fun k => (spec_Decimal.f k (-((n.natAbs / 10 : Nat) : Int))).bind fun t => if t.size + (ofL [UInt8.ofNat (48 + n.natAbs % 10)]).size ≤ 9223372036854775807 then some (t ++ ofL [UInt8.ofNat (48 + n.natAbs % 10)]) else none) (fun k => by simp only [spec_Decimal.f]; rw [if_pos hn, if_neg h10, hr, hq]; simp only [Option.bind_some]; rw [digit_str _ (n.natAbs % 10) (by omega) rfl]) (Ev.bind hrec ⟨0, fun k _ => ?_⟩)
        have hz : (ofL (itoaL (-((n.natAbs / 10 : Nat) : Int)))).size + (ofL [UInt8.ofNat (48 + n.natAbs % 10)]).size ≤ 9223372036854775807 := by
          rw [ofL_size, ofL_size, List.length_singleton]; omega
        have hj : itoaL (-((n.natAbs / 10 : Nat) : Int)) = 45 :: Lib.decDigits (n.natAbs / 10) := by
          rw [itoaL, if_pos (by omega), Int.natAbs_neg, Int.natAbs_natCast]
        dsimp only
        rw [if_pos hz, ofL_app, hj, hi, dec_big n.natAbs (by omega)]
        rfl
    · have hi : itoaL n = Lib.decDigits n.natAbs := by rw [itoaL, if_neg hn]
      by_cases h10 : n < 10
      · refine Ev.step (f := fun _ => some (ofL (itoaL n))) (fun k => ?_) (Ev.now _)
        simp only [spec_Decimal.f]
        rw [if_neg hn, if_pos h10, digit_str (48 + n) n.natAbs (by omega) (by omega), hi, Lib.decDigits_one (by omega)]
      · obtain ⟨u, rfl⟩ : ∃ u : Nat, n = (u : Int) := ⟨n.natAbs, by omega⟩
        rw [Int.natAbs_natCast] at hi hm
        have hq : wrap64 (Int.tdiv (u : Int) 10) = ((u / 10 : Nat) : Int) := by
          rw [show Int.tdiv (u : Int) 10 = ((u / 10 : Nat) : Int) from rfl, w64 _ (by omega) (by omega)]
        have hr : 48 + Int.tmod (u : Int) 10 = 48 + ((u % 10 : Nat) : Int) := rfl
        have hrec := ih (u / 10) (by omega) ((u / 10 : Nat) : Int) (by omega) (by omega) (by omega)
        have hl2 := itoaL_len ((u / 10 : Nat) : Int) (by omega) (by omega)
        refine Ev.step (f := fun k => (spec_Decimal.f k ((u / 10 : Nat) : Int)).bind fun t => if t.size + (ofL [UInt8.ofNat (48 + u % 10)]).size ≤ 9223372036854775807 then some (t ++ ofL [UInt8.ofNat (48 + u % 10)]) else none) (fun k => by simp only [spec_Decimal.f]; rw [if_neg hn, if_neg h10, hr, hq]; simp only [Option.bind_some]; rw [digit_str _ (u % 10) (by omega) rfl]) (Ev.bind hrec ⟨0, fun k _ => ?_⟩)
        have hz : (ofL (itoaL ((u / 10 : Nat) : Int))).size + (ofL [UInt8.ofNat (48 + u % 10)]).size ≤ 9223372036854775807 := by
          rw [ofL_size, ofL_size, List.length_singleton]; omega
        have hj : itoaL ((u / 10 : Nat) : Int) = Lib.decDigits (u / 10) := by
          rw [itoaL, if_neg (by omega), Int.natAbs_natCast]
        dsimp only
        rw [if_pos hz, ofL_app, hj, hi, dec_big u (by omega)]
/-! ### separated -/
def sepP (index : Bool) (num : Int) (fs : List ByteArray) (i : Nat) : List UInt8 := (List.range i).flatMap fun j => pre index num j ++ (fs.getD j ByteArray.empty).data.toList
theorem sepP_succ (index : Bool) (num : Int) (fs : List ByteArray) (i : Nat) (x : ByteArray) (hx : fs[i]? = some x) : sepP index num fs (i + 1) = sepP index num fs i ++ (pre index num i ++ x.data.toList) := by
  unfold sepP
  rw [List.range_succ, List.flatMap_append]
  simp [List.getD_eq_getElem?_getD, hx]
theorem sepP_len (index : Bool) (num : Int) (h0 : -9223372036854775808 ≤ num) (h1 : num ≤ 9223372036854775807) (fs : List ByteArray) (hf : ∀ x ∈ fs, x.size ≤ 5000) : ∀ i : Nat, i ≤ fs.length → (sepP index num fs i).length ≤ 6000 * i
  | 0, _ => by simp [sepP]
  | i + 1, hi => by
    have ih := sepP_len index num h0 h1 fs hf i (by omega)
    have hx : fs[i]? = some fs[i] := List.getElem?_eq_getElem (by omega)
    rw [sepP_succ index num fs i _ hx]
    have h2 := pre_len index num h0 h1 i
    have h3 := hf _ (List.getElem_mem (show i < fs.length by omega))
    rw [← size_l] at h3
    simp only [List.length_append]
    omega
theorem tail_loop (C : Nat) (hC : C ≤ 300) (d : Nat) : ∀ (j : Nat) (acc : List UInt8), C - j = d → j ≤ 4000 → acc.length + d ≤ 100000000 → Ev (fun k => spec_separated.l1 k (C : Int) ⟨#[44]⟩ (ofL acc) (j : Int)) (ofL (acc ++ List.replicate d 44)) := by
  induction d with
  | zero =>
    intro j acc hj hj2 ha
    refine Ev.step (f := fun _ => some (ofL acc)) (fun k => ?_) ?_
    · simp only [spec_separated.l1]
      rw [if_neg (by omega)]
    · simpa using Ev.now (ofL acc)
  | succ d ih =>
    intro j acc hj hj2 ha
    have h1 := ih (j + 1) (acc ++ [44]) (by omega) (by omega) (by simp; omega)
    refine Ev.step (f := fun k => spec_separated.l1 k (C : Int) ⟨#[44]⟩ (ofL (acc ++ [44])) ((j + 1 : Nat) : Int)) (fun k => ?_) ?_
    · simp only [spec_separated.l1]
      rw [if_pos (by omega), show (⟨#[44]⟩ : ByteArray) = ofL [44] from rfl, if_pos (by rw [ofL_size, ofL_size, List.length_singleton]; omega), ofL_app, w64 _ (by omega) (by omega)]
      rfl
    · rw [List.replicate_succ]
      simpa using h1
theorem sep_loop (index : Bool) (num : Int) (h0 : -9223372036854775808 ≤ num) (h1 : num ≤ 9223372036854775807) (C : Nat) (hC : C ≤ 300) (fs : List ByteArray) (hl : fs.length ≤ 2001) (hf : ∀ x ∈ fs, x.size ≤ 5000) (d : Nat) : ∀ i : Nat, i + d = fs.length →
    Ev (fun k => spec_separated.l0 k fs (C : Int) ⟨#[44]⟩ index num (ofL (sepP index num fs i)) (i : Int)) (ofL (sepP index num fs fs.length ++ List.replicate (C - fs.length) 44)) := by
  induction d with
  | zero =>
    intro i hi
    obtain rfl : i = fs.length := by omega
    have hpl := sepP_len index num h0 h1 fs hf fs.length (Nat.le_refl _)
    refine Ev.step (f := fun k => spec_separated.l1 k (C : Int) ⟨#[44]⟩ (ofL (sepP index num fs fs.length)) (fs.length : Int)) (fun k => ?_) (tail_loop C hC (C - fs.length) fs.length _ rfl (by omega) (by omega))
    simp only [spec_separated.l0]
    rw [if_neg (by omega)]
  | succ d ih =>
    intro i hi
    have hlt : i < fs.length := by omega
    have hx : fs[i]? = some fs[i] := List.getElem?_eq_getElem hlt
    have hxs := hf _ (List.getElem_mem hlt)
    have hpl := sepP_len index num h0 h1 fs hf i (by omega)
    have hrec := ih (i + 1) (by omega)
    rw [sepP_succ index num fs i _ hx] at hrec
    have hw : wrap64 ((i : Int) + 1) = ((i + 1 : Nat) : Int) := by rw [w64 _ (by omega) (by omega)]; rfl
    have hrd : rdOf ByteArray.empty fs (i : Int) = fs[i] := rdOf_at _ _ _ hlt
    have hxl : fs[i] = ofL fs[i].data.toList := (ofL_of _).symm
    obtain ⟨x, hxe⟩ : ∃ x, x = fs[i].data.toList := ⟨_, rfl⟩
    rw [← hxe] at hxl hrec
    have hxn : x.length ≤ 5000 := by rw [hxe, size_l]; exact hxs
    by_cases h00 : i = 0
    · subst h00
      have hs0 : sepP index num fs 0 = [] := rfl
      rw [hs0] at hrec ⊢
      cases index with
      | true =>
        have hpre : pre true num 0 = itoaL num ++ [44] := rfl
        rw [hpre] at hrec
        have hil := itoaL_len num h0 h1
        refine Ev.step (f := fun k => spec_separated.j1 k fs (C : Int) ⟨#[44]⟩ true num (ofL []) 0 true) (fun k => ?_) ?_
        · simp only [spec_separated.l0]
          rw [if_pos (by omega), if_pos (by rfl)]
          rfl
        · refine Ev.step (fun k => by simp only [spec_separated.j1]; rw [if_pos trivial]) (Ev.bind (decimal_e num.natAbs num (Nat.le_refl _) h0 h1) ?_)
          refine Ev.congr (fun k => ?_) hrec
          rw [show (⟨#[44]⟩ : ByteArray) = ofL [44] from rfl, if_pos (by rw [ofL_size, ofL_size, List.length_singleton]; omega), if_neg (by omega), if_pos (by omega), if_pos (by omega), show (0 : Int) = ((0 : Nat) : Int) from rfl, hrd, hxl, ofL_app, if_pos (by rw [ofL_size, ofL_size, List.length_append, List.length_singleton]; omega), ofL_app, hw]
          rfl
      | false =>
        have hpre : pre false num 0 = [] := rfl
        rw [hpre] at hrec
        refine Ev.step (f := fun k => spec_separated.j1 k fs (C : Int) ⟨#[44]⟩ false num (ofL []) 0 false) (fun k => ?_) ?_
        · simp only [spec_separated.l0]
          rw [if_pos (by omega), if_pos (by rfl)]
          rfl
        · refine Ev.step (fun k => by simp only [spec_separated.j1]; rw [if_neg (by simp), if_neg (by omega), if_pos (by omega), if_pos (by omega), show (0 : Int) = ((0 : Nat) : Int) from rfl, hrd, hxl, if_pos (by rw [ofL_size, ofL_size, List.length_nil]; omega), ofL_app, hw]; rfl) hrec
    · have hpre : pre index num i = [44] := by rw [pre, if_neg h00]
      rw [hpre] at hrec
      refine Ev.step (f := fun k => spec_separated.j1 k fs (C : Int) ⟨#[44]⟩ index num (ofL (sepP index num fs i)) (i : Int) false) (fun k => ?_) ?_
      · simp only [spec_separated.l0]
        rw [if_pos (by omega), if_neg (by omega)]
      · refine Ev.step (f := fun k => spec_separated.l0 k fs (C : Int) ⟨#[44]⟩ index num (ofL (sepP index num fs i ++ ([44] ++ x))) ((i + 1 : Nat) : Int)) (fun k => ?_) hrec
        simp only [spec_separated.j1]
        rw [if_neg (by simp), if_pos (by omega), show (⟨#[44]⟩ : ByteArray) = ofL [44] from rfl, if_pos (by rw [ofL_size, ofL_size, List.length_singleton]; omega), if_pos (by omega), if_pos (by omega), hrd, hxl, ofL_app, if_pos (by rw [ofL_size, ofL_size, List.length_append, List.length_singleton]; omega), ofL_app, hw, List.append_assoc]
theorem sep_e (index : Bool) (num : Int) (h0 : -9223372036854775808 ≤ num) (h1 : num ≤ 9223372036854775807) (C : Nat) (hC : C ≤ 300) (fs : List ByteArray) (hl : fs.length ≤ 2001) (hf : ∀ x ∈ fs, x.size ≤ 5000) :
    Ev (fun k => spec_separated.f k fs (C : Int) ⟨#[44]⟩ index num) (ofL (sepP index num fs fs.length ++ List.replicate (C - fs.length) 44)) :=
  sep_loop index num h0 h1 C hC fs hl hf fs.length 0 (by omega)
theorem i64_of {n : Int} (h : (Lit.int .i64 n).wf = true) : -9223372036854775808 ≤ n ∧ n ≤ 9223372036854775807 := by
  simp [Lit.wf, IntKind.min, IntKind.max, IntKind.signed, IntKind.bits] at h
  omega
theorem sizes_all : ∀ (l : List ByteArray) (m : Nat), sizes l ≤ m → l.length ≤ m ∧ ∀ x ∈ l, x.size ≤ m
  | [], m, _ => by simp
  | y :: r, m, h => by
    have e : sizes (y :: r) = (y.size + 1) + sizes r := by simp [sizes]
    rw [e] at h
    have ih := sizes_all r (m - (y.size + 1)) (by omega)
    refine ⟨by rw [List.length_cons]; omega, fun x hx => ?_⟩
    rcases List.mem_cons.1 hx with rfl | hx
    · omega
    · have := ih.2 x hx; omega
/-! ### the row -/
theorem special_or (y : List UInt8) : special y = (decide (34 ∈ y) || decide (44 ∈ y) || decide (10 ∈ y)) := by
  rw [special, anyIn, Bool.eq_iff_iff]
  simp only [List.any_eq_true, Bool.or_eq_true, decide_eq_true_iff, List.mem_cons, List.not_mem_nil, or_false]
  constructor
  · rintro ⟨c, hc, rfl | rfl | rfl⟩
    · exact .inl (.inl hc)
    · exact .inl (.inr hc)
    · exact .inr hc
  · rintro ((h | h) | h)
    · exact ⟨34, h, by simp⟩
    · exact ⟨44, h, by simp⟩
    · exact ⟨10, h, by simp⟩
theorem field_step (cells : List ByteArray) (C : Int) (p index : Bool) (num : Int) (out : List ByteArray) (i : Nat) (y : ByteArray) (hy : y.size ≤ 3000) (ho : out.length ≤ 3000) (hi : i ≤ 3000) (R : ByteArray)
    (h : Ev (fun k => spec_CsvRow.l0 k cells C p index num (out ++ [if special y.data.toList = true then ofL (34 :: (dup y.data.toList ++ [34])) else y]) ((i + 1 : Nat) : Int)) R) :
    Ev (fun k => spec_CsvRow.j2 k cells C p index num out (i : Int) y) R := by
  have hw : wrap64 ((i : Int) + 1) = ((i + 1 : Nat) : Int) := by rw [w64 _ (by omega) (by omega)]; rfl
  have hlen : out.length < 8796093022208 := by omega
  have hq := quoted_e y (by omega)
  rw [special_or] at h
  refine Ev.step (fun k => by simp only [spec_CsvRow.j2]; rfl) (Ev.bind (has_e y 34 (by omega)) ?_)
  by_cases h34 : (34 : UInt8) ∈ y.data.toList
  · rw [decide_eq_true h34] at h ⊢
    simp only [Bool.true_or, if_true] at h ⊢
    refine Ev.bind hq (Ev.congr (fun k => ?_) h)
    rw [if_pos hlen, hw]
  · rw [decide_eq_false h34] at h ⊢
    simp only [Bool.false_or, Bool.false_eq_true, if_false] at h ⊢
    refine Ev.bind (has_e y 44 (by omega)) ?_
    by_cases h44 : (44 : UInt8) ∈ y.data.toList
    · rw [decide_eq_true h44] at h ⊢
      simp only [Bool.true_or, if_true] at h ⊢
      refine Ev.bind hq (Ev.congr (fun k => ?_) h)
      rw [if_pos hlen, hw]
    · rw [decide_eq_false h44] at h ⊢
      simp only [Bool.false_or, Bool.false_eq_true, if_false] at h ⊢
      refine Ev.bind (has_e y 10 (by omega)) ?_
      by_cases h10 : (10 : UInt8) ∈ y.data.toList
      · rw [decide_eq_true h10] at h ⊢
        simp only [if_true] at h ⊢
        refine Ev.bind hq (Ev.congr (fun k => ?_) h)
        rw [if_pos hlen, hw]
      · rw [decide_eq_false h10] at h ⊢
        simp only [Bool.false_eq_true, if_false] at h ⊢
        refine Ev.congr (fun k => ?_) h
        rw [if_pos hlen, hw]
def fieldB (p : Bool) (x : ByteArray) : ByteArray := ofL (fld p x.data.toList)
theorem field_eq (p : Bool) (x y : ByteArray) (h : y.data.toList = prot p x.data.toList) : (if special y.data.toList = true then ofL (34 :: (dup y.data.toList ++ [34])) else y) = fieldB p x := by
  unfold fieldB fld
  rw [← h]
  split
  · rfl
  · exact (ofL_of y).symm
theorem row_loop (cells : List ByteArray) (C : Nat) (hC : C ≤ 300) (p index : Bool) (num : Int) (h0 : -9223372036854775808 ≤ num) (h1 : num ≤ 9223372036854775807) (hl : cells.length ≤ 2001) (hx : ∀ x ∈ cells, x.size ≤ 2000) (d : Nat) : ∀ i : Nat, i + d = cells.length →
    Ev (fun k => spec_CsvRow.l0 k cells (C : Int) p index num ((cells.take i).map (fieldB p)) (i : Int)) (ofL (row p index num cells (C : Int))) := by
  induction d with
  | zero =>
    intro i hi
    obtain rfl : i = cells.length := by omega
    rw [List.take_of_length_le (Nat.le_refl _)]
    have hfl : (cells.map (fieldB p)).length = cells.length := List.length_map ..
    have hs := sep_e index num h0 h1 C hC (cells.map (fieldB p)) (by omega) (fun y hy => by
      obtain ⟨x, hxm, rfl⟩ := List.mem_map.1 hy
      have := fld_len p x.data.toList
      rw [size_l] at this
      have := hx x hxm
      unfold fieldB
      rw [ofL_size]
      omega)
    rw [hfl] at hs
    have e : sepP index num (cells.map (fieldB p)) cells.length = CsvP.part p index num cells cells.length := by
      unfold sepP CsvP.part
      rw [List.flatMap_def, List.flatMap_def]
      congr 1
      refine List.map_congr_left fun j hj => ?_
      have hjl : j < cells.length := List.mem_range.1 hj
      congr 1
      simp [List.getD_eq_getElem?_getD, List.getElem?_eq_getElem hjl, fieldB, ofL]
    rw [e] at hs
    refine Ev.step (fun k => by simp only [spec_CsvRow.l0]; rw [if_neg (by omega)]) (Ev.bind hs ?_)
    unfold row
    rw [Int.toNat_natCast]
    exact Ev.now _
  | succ d ih =>
    intro i hi
    have hlt : i < cells.length := by omega
    obtain ⟨x, hxe⟩ : ∃ x, x = cells[i] := ⟨_, rfl⟩
    have hxs : x.size ≤ 2000 := by rw [hxe]; exact hx _ (List.getElem_mem hlt)
    have hrd : rdOf ByteArray.empty cells (i : Int) = x := by rw [hxe]; exact rdOf_at _ _ _ hlt
    have hrec := ih (i + 1) (by omega)
    rw [List.take_succ_eq_append_getElem hlt, List.map_append, List.map_singleton, ← hxe] at hrec
    obtain ⟨out, hout⟩ : ∃ out, out = (cells.take i).map (fieldB p) := ⟨_, rfl⟩
    have hol : out.length ≤ 2001 := by rw [hout, List.length_map, List.length_take]; omega
    rw [← hout] at hrec ⊢
    -- the way without a quote ahead
    have plain : prot p x.data.toList = x.data.toList → Ev (fun k => spec_CsvRow.j1 k cells (C : Int) p index num out (i : Int) x false) (ofL (row p index num cells (C : Int))) := fun hp => by
      refine Ev.step (f := fun k => spec_CsvRow.j2 k cells (C : Int) p index num out (i : Int) x) (fun k => by simp only [spec_CsvRow.j1]; rw [if_neg (by simp)]) ?_
      refine field_step cells C p index num out i x (by omega) (by omega) (by omega) _ ?_
      rw [field_eq p x x hp.symm]
      exact hrec
    have risk : ∀ c t, x.data.toList = c :: t → p = true → risky c = true → Ev (fun k => spec_CsvRow.j1 k cells (C : Int) p index num out (i : Int) x true) (ofL (row p index num cells (C : Int))) := fun c t hct hp hr => by
      refine Ev.step (f := fun k => spec_CsvRow.j2 k cells (C : Int) p index num out (i : Int) (ofL (39 :: x.data.toList))) (fun k => by
        simp only [spec_CsvRow.j1]
        rw [if_pos trivial, if_pos (by omega)]
        conv => lhs; rw [show x = ofL x.data.toList from (ofL_of x).symm]
        rw [show (⟨#[39]⟩ : ByteArray) = ofL [39] from rfl, ofL_app]
        rfl) ?_
      refine field_step cells C p index num out i _ (by rw [ofL_size, List.length_cons, size_l]; omega) (by omega) (by omega) _ ?_
      rw [field_eq p x (ofL (39 :: x.data.toList)) (by rw [ofL_data, hct, prot, if_pos ⟨hp, hr⟩])]
      exact hrec
    cases hct : x.data.toList with
    | nil =>
      have hx0 : x.toList = ([] : List UInt8) := by rw [tl, hct]
      have hp : prot p x.data.toList = x.data.toList := by rw [hct]; rfl
      refine Ev.step (f := fun k => spec_CsvRow.j1 k cells (C : Int) p index num out (i : Int) x false) (fun k => ?_) (plain hp)
      simp only [spec_CsvRow.l0]
      rw [if_pos (by omega), if_pos (by omega), hrd]
      cases p with
      | true => rw [if_pos rfl, if_pos hx0]
      | false => rw [if_neg (by simp)]
    | cons c t =>
      have hx0 : ¬ x.toList = ([] : List UInt8) := by rw [tl, hct]; simp
      have hsz : 0 < x.size := by rw [← size_l, hct]; simp
      have hbt : bt x 0 = (c.toNat : Int) := by
        have := bt_get x 0 hsz
        simp only [hct, List.getElem_cons_zero] at this
        exact this
      cases p with
      | false =>
        have hp : prot false x.data.toList = x.data.toList := by rw [hct, prot, if_neg (by simp)]
        refine Ev.step (f := fun k => spec_CsvRow.j1 k cells (C : Int) false index num out (i : Int) x false) (fun k => ?_) (plain hp)
        simp only [spec_CsvRow.l0]
        rw [if_pos (by omega), if_pos (by omega), hrd, if_neg (by simp)]
      | true =>
        have nat_eq : ∀ m : UInt8, ((c.toNat : Int) = (m.toNat : Int)) ↔ c = m := fun m => ⟨fun e => UInt8.toNat_inj.1 (by omega), fun e => by rw [e]⟩
        have hbr : ∀ b, risky c = b → Ev (fun k => spec_CsvRow.j1 k cells (C : Int) true index num out (i : Int) x b) (ofL (row true index num cells (C : Int))) := fun b hb => by
          cases b with
          | true => exact risk c t hct rfl hb
          | false => exact plain (by rw [hct, prot, if_neg (by rw [hb]; simp)])
        refine Ev.step (f := fun k => spec_CsvRow.j1 k cells (C : Int) true index num out (i : Int) x (risky c)) (fun k => ?_) (hbr _ rfl)
        simp only [spec_CsvRow.l0]
        rw [if_pos (by omega), if_pos (by omega), hrd, if_pos trivial, if_neg hx0, if_pos (by omega), hbt]
        have m61 : ((c.toNat : Int) = 61) ↔ c = 61 := nat_eq 61
        have m43 : ((c.toNat : Int) = 43) ↔ c = 43 := nat_eq 43
        have m45 : ((c.toNat : Int) = 45) ↔ c = 45 := nat_eq 45
        have m64 : ((c.toNat : Int) = 64) ↔ c = 64 := nat_eq 64
        have m9 : ((c.toNat : Int) = 9) ↔ c = 9 := nat_eq 9
        have m13 : ((c.toNat : Int) = 13) ↔ c = 13 := nat_eq 13
        unfold risky
        by_cases e1 : c = 61
        · rw [if_pos (m61.2 e1)]; simp [e1]
        · rw [if_neg (fun e => e1 (m61.1 e))]
          by_cases e2 : c = 43
          · rw [if_pos (m43.2 e2)]; simp [e2]
          · rw [if_neg (fun e => e2 (m43.1 e))]
            by_cases e3 : c = 45
            · rw [if_pos (m45.2 e3)]; simp [e3]
            · rw [if_neg (fun e => e3 (m45.1 e))]
              by_cases e4 : c = 64
              · rw [if_pos (m64.2 e4)]; simp [e4]
              · rw [if_neg (fun e => e4 (m64.1 e))]
                by_cases e5 : c = 9
                · rw [if_pos (m9.2 e5)]; simp [e5]
                · rw [if_neg (fun e => e5 (m9.1 e))]
                  congr 1
                  rw [decide_eq_false e1, decide_eq_false e2, decide_eq_false e3, decide_eq_false e4, decide_eq_false e5]
                  simp only [Bool.false_or]
                  rw [Bool.eq_iff_iff, beq_iff_eq, decide_eq_true_iff]
                  exact m13
theorem pure (l0 : List ByteArray) (hg0 : (Goods (fun s => s.size ≤ maxLen)) l0) (a1 : Int) (w1 : (Lit.int .i64 a1).wf = true) (a2 : Bool) (a3 : Bool) (a4 : Int) (w4 : (Lit.int .i64 a4).wf = true) : ∃ k, laws_FnCsvRow.f k l0 a1 a2 a3 a4 = some true := by
  refine Ev.rounds (g := fun k => laws_FnCsvRow.f k l0 a1 a2 a3 a4) ?_
  unfold laws_FnCsvRow.f
  have hn := i64_of w4
  obtain ⟨b, hb, hs⟩ := fits4 laws_zzFits4.l0 (fun k x8 x9 x10 => by simp only [laws_zzFits4.l0]) laws_zzFits4.f (fun k l => by simp only [laws_zzFits4.f]) l0
  refine Ev.bind hb ?_
  cases b with
  | false => simpa using Ev.now true
  | true =>
    simp only [if_true]
    obtain ⟨hl, hsz⟩ := hs rfl
    obtain ⟨b2, hb2, ht⟩ := texts_ev laws_texts.l0 (fun k x0 x1 x5 x6 => by simp only [laws_texts.l0]) laws_texts.f (fun k l m => by simp only [laws_texts.f]) l0 2000 (by omega) hl hsz
    refine Ev.bind hb2 ?_
    have ok : ∀ v, v = true → Ev (fun k => laws_FnCsvRow.j0 k l0 a1 a2 a3 a4 v) true := fun v hv => Ev.step (f := fun _ => some true) (fun k => by simp only [laws_FnCsvRow.j0, if_pos hv]) (Ev.now true)
    cases b2 with
    | false => simpa using ok true rfl
    | true =>
      simp only [if_true]
      have hsum := ht rfl
      by_cases h1 : a1 < 0
      · simp only [if_pos h1]; exact ok true rfl
      · simp only [if_neg h1]
        by_cases h2 : a1 > 300
        · exact ok _ (decide_eq_true h2)
        · rw [decide_eq_false h2]
          have hxl := sizes_all l0 2000 hsum
          obtain ⟨C, rfl⟩ := Int.eq_ofNat_of_zero_le (show 0 ≤ a1 by omega)
          have hok : okr l0 (C : Int) a4 = true := (okr_iff _ _ _).2 ⟨fun x hx => (hxl.2 x hx), by omega, by omega, by omega, hn.1, hn.2⟩
          refine Ev.step (fun k => by simp only [laws_FnCsvRow.j0]; rw [if_neg (by simp), impl_CsvRow.f, if_pos hok]) ?_
          simp only [Option.bind_some]
          have hrow := row_loop l0 C (by omega) a2 a3 a4 hn.1 hn.2 (by omega) hxl.2 l0.length 0 (by omega)
          rw [List.take_zero, List.map_nil] at hrow
          refine Ev.bind (g := fun k => spec_CsvRow.f k l0 (C : Int) a2 a3 a4) hrow ?_
          simpa using Ev.now true
end Go.Proofs.Ytjoagjkmghmnnaa.PureFnCsvRow
