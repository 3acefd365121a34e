/-
  Proved: what zzReplaceAll and zzContains come to, as plain functions over bytes. Conditions: sizes as told.
-/
import Derived.Test.YtkfkhafmgndgaaaRRDoorGEx
import Derived.Test.YtkfkhafmgndgaaaRRDoorCommon
namespace Go.Proofs.YtkfkhafmgndgaaaRRDoor.Repl
set_option linter.unusedVariables false
open Go.RowKit Go.Proofs.YtkfkhafmgndgaaaRRDoorW.PrintWords Go.Proofs.YtkfkhafmgndgaaaRRDoor.GE Go.Proofs.YtkfkhafmgndgaaaRRDoor.Common

def replL (old new : List UInt8) : Nat → List UInt8 → List UInt8
  | 0, l => l
  | n + 1, l => match findSub old l with
    | none => l
    | some j => l.take j ++ new ++ replL old new n (l.drop (j + old.length))
theorem str_nums (l : List UInt8) : strOfNums (l.map fun b => (b.toNat : Int)) = ofL l := by
  unfold strOfNums ofL
  congr 2
  rw [List.map_map]
  conv => rhs; rw [← List.map_id l]
  refine List.map_congr_left fun b _ => ?_
  simp
theorem index_e (s sub : ByteArray) (hs : s.size ≤ 4611686018427387904) (hb : sub.size ≤ 2305843009213693952) : Ev (fun k => text_zzIndex.f k s sub) (idxOf sub.data.toList s.data.toList) :=
  index_ev text_zzIndex.l0 (fun k x0 x1 x5 => by simp only [text_zzIndex.l0]) s sub hs hb
def nums (l : List UInt8) : List Int := l.map fun b => (b.toNat : Int)
theorem nums_of (s : ByteArray) : bytesOf s = nums s.data.toList := rfl
theorem repl_loop (old new : ByteArray) (h0 : 0 < old.size) (hb : old.size ≤ 1152921504606846976) (n : Nat) : ∀ (s : ByteArray) (out : List UInt8), s.size ≤ n → s.size ≤ 4611686018427387 → out.length + s.size * (new.size + 1) < 140737488355328 →
    Ev (fun k => text_zzReplaceAll.l1 k s old new (nums out)) (ofL (out ++ replL old.data.toList new.data.toList n s.data.toList)) := by
  induction n with
  | zero =>
    intro s out hn hs ho
    have hf : findSub old.data.toList s.data.toList = none := findSub_short _ _ (by rw [size_l, size_l]; omega)
    have hi := index_e s old (by omega) (by omega)
    unfold idxOf at hi
    rw [hf] at hi
    have hz : s.size = 0 := by omega
    rw [hz] at ho
    refine Ev.step (f := fun k => (text_zzIndex.f k s old).bind fun t104 => _) (fun k => by rw [text_zzReplaceAll.l1]) (Ev.bind hi ⟨0, fun k _ => ?_⟩)
    have hl : (nums out).length + s.size < 140737488355328 := by rw [nums, List.length_map, hz]; omega
    dsimp only
    rw [if_pos (show (-1 : Int) < 0 by omega), if_pos hl, nums_of, nums, nums, ← List.map_append, str_nums]
    rfl
  | succ n ih =>
    intro s out hn hs ho
    have hi := index_e s old (by omega) (by omega)
    unfold idxOf at hi
    have hmul : s.size ≤ s.size * (new.size + 1) := Nat.le_mul_of_pos_right _ (by omega)
    cases hf : findSub old.data.toList s.data.toList with
    | none =>
      rw [hf] at hi
      refine Ev.step (f := fun k => (text_zzIndex.f k s old).bind fun t104 => _) (fun k => by rw [text_zzReplaceAll.l1]) (Ev.bind hi ⟨0, fun k _ => ?_⟩)
      have hl : (nums out).length + s.size < 140737488355328 := by rw [nums, List.length_map]; omega
      dsimp only
      rw [if_pos (show (-1 : Int) < 0 by omega), if_pos hl, nums_of, nums, nums, ← List.map_append, str_nums, replL, hf]
    | some j =>
      rw [hf] at hi
      obtain ⟨hj, _⟩ := findSub_some _ _ _ hf
      rw [size_l, size_l] at hj
      have hw : wrap64 ((j : Int) + (old.size : Int)) = ((j + old.size : Nat) : Int) := by rw [w64 _ (by omega) (by omega)]; omega
      have hsz : (s.extract (j + old.size) s.size).size = s.size - (j + old.size) := by rw [← size_l, Lib.extract_data, List.length_take, List.length_drop, size_l]; omega
      have hd : (s.extract (j + old.size) s.size).data.toList = s.data.toList.drop (j + old.data.toList.length) := by
        rw [Lib.extract_data, size_l, List.take_of_length_le]
        rw [List.length_drop, size_l]; omega
      have htk : (s.extract 0 j).data.toList = s.data.toList.take j := by rw [Lib.extract_data]; simp
      have htl : (s.extract 0 j).size = j := by rw [← size_l, htk, List.length_take, size_l]; omega
      have harith : j + new.size + (s.size - (j + old.size)) * (new.size + 1) ≤ s.size * (new.size + 1) := by
        have e : s.size = (s.size - (j + old.size)) + (j + old.size) := by omega
        have h1 : s.size * (new.size + 1) = (s.size - (j + old.size)) * (new.size + 1) + (j + old.size) * (new.size + 1) := by
          rw [← Nat.add_mul, ← e]
        have h2 : j + new.size ≤ (j + old.size) * (new.size + 1) := by
          rw [Nat.add_mul]
          have := Nat.le_mul_of_pos_right j (show 0 < new.size + 1 by omega)
          have := Nat.le_mul_of_pos_left (new.size + 1) h0
          omega
        omega
      have h1 := ih (s.extract (j + old.size) s.size) (out ++ s.data.toList.take j ++ new.data.toList) (by omega) (by omega) (by
        rw [List.length_append, List.length_append, hsz, List.length_take, size_l, size_l]
        omega)
      refine Ev.step (f := fun k => (text_zzIndex.f k s old).bind fun t104 => _) (fun k => by rw [text_zzReplaceAll.l1]) (Ev.bind hi ?_)
      refine Ev.congr (fun k => ?_) (f := fun k => text_zzReplaceAll.l1 k (s.extract (j + old.size) s.size) old new (nums (out ++ s.data.toList.take j ++ new.data.toList))) ?_
      · rw [hw]
        simp only [Int.toNat_natCast]
        have hl : (nums out).length = out.length := by rw [nums, List.length_map]
        rw [if_neg (show ¬ (j : Int) < 0 by omega), if_pos (show (0 : Int) ≤ (j : Int) by omega), if_pos (show (j : Int) ≤ (s.size : Int) by omega), if_pos (show (nums out).length + (s.extract 0 j).size < 140737488355328 by rw [htl, hl]; omega)]
        simp only [Option.bind_some]
        rw [if_pos (by rw [List.length_append, hl, bytesOf_length, htl]; omega), if_pos (by omega), if_pos (by omega), nums_of, nums_of, htk]
        simp only [nums, List.map_append]
      · rw [hd] at h1
        rw [replL, hf]
        simp only [List.append_assoc] at h1 ⊢
        exact h1
theorem repl_ev (s old new : ByteArray) (h0 : 0 < old.size) (hb : old.size ≤ 1152921504606846976) (hs : s.size ≤ 4611686018427387) (ho : s.size * (new.size + 1) < 140737488355328) :
    Ev (fun k => text_zzReplaceAll.f k s old new) (ofL (replL old.data.toList new.data.toList s.size s.data.toList)) := by
  refine Ev.congr (fun k => ?_) (repl_loop old new h0 hb s.size s [] (Nat.le_refl _) hs (by simpa using ho))
  unfold text_zzReplaceAll.f
  rw [if_neg (by omega)]
  rfl
def hasL (sub l : List UInt8) : Bool := (findSub sub l).isSome
theorem has_ev (s sub : ByteArray) (hs : s.size ≤ 4611686018427387904) (hb : sub.size ≤ 2305843009213693952) : Ev (fun k => text_zzContains.f k s sub) (hasL sub.data.toList s.data.toList) := by
  refine Ev.bind (index_e s sub hs hb) ⟨0, fun k _ => ?_⟩
  unfold hasL idxOf
  cases findSub sub.data.toList s.data.toList with
  | none => rfl
  | some j =>
    simp only [Option.isSome_some]
    rw [decide_eq_true (by omega)]
end Go.Proofs.YtkfkhafmgndgaaaRRDoor.Repl
