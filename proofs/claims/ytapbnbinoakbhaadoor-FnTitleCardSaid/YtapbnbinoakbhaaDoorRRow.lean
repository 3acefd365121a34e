/-
  Proved: '[]rune(s)' of an ASCII text as a row of the call's own, and 'string(runes)' back. Conditions: ASCII, at most 2^31 bytes.
-/
import Derived.Test.YtapbnbinoakbhaaDoorProg
import Derived.Test.YtapbnbinoakbhaaDoorCommon
import Derived.Test.YtapbnbinoakbhaaDoorWMore
import Derived.WalkKit
import Derived.Laws.IdiomStrings
import Derived.Laws.Cover4
import Derived.Below
namespace Go.Proofs.YtapbnbinoakbhaaDoor.RRow
open Go.RowKit Go.Proofs.YtapbnbinoakbhaaDoorW.PrintWords Go.Proofs.YtapbnbinoakbhaaDoor.Common
set_option linter.unusedVariables false

theorem ofBs_len (l : List UInt8) : (ofBs l).length = l.length := by simp [ofBs]
theorem ofBs_set (l : List UInt8) (j : Nat) (c : UInt8) : (ofBs l).set j (c.toNat : Int) = ofBs (l.set j c) := by simp [ofBs, List.map_set]
theorem rd_ofBs (l : List UInt8) (j : Nat) (h : j < l.length) : rd (ofBs l) (j : Int) = ((l[j]).toNat : Int) := by
  unfold rd
  simp [ofBs, List.getElem?_eq_getElem h]
theorem encode_ascii : ∀ c : Fin 128, Utf8.encode (c.val : Int) = ⟨#[UInt8.ofNat c.val]⟩ := by decide +kernel
theorem runesBytes_ascii (l : List UInt8) (h : ∀ c ∈ l, c.toNat < 128) : runesBytes (ofBs l) = ofL l := by
  have key : ∀ (l : List UInt8) (acc : ByteArray), (∀ c ∈ l, c.toNat < 128) → (ofBs l).foldl (fun r n => r ++ Utf8.encode n) acc = acc ++ ofL l := by
    intro l
    induction l with
    | nil => intro acc _; apply WideShapes.bytes_inj; simp [ofBs, ofL]
    | cons c t ih =>
      intro acc h
      have hc : c.toNat < 128 := h c (by simp)
      have e : ofBs (c :: t) = (c.toNat : Int) :: ofBs t := rfl
      rw [e, List.foldl_cons, ih _ (fun x hx => h x (by simp [hx]))]
      have e2 := encode_ascii ⟨c.toNat, hc⟩
      simp only at e2
      rw [e2]
      apply WideShapes.bytes_inj
      simp [ofL]
  have := key l ByteArray.empty h
  unfold runesBytes
  rw [this]
  apply WideShapes.bytes_inj
  simp [ofL]
theorem own_runes {P : Program} {w : World} {base n : Nat} {e' src dst e : TypeId} {v : Value} {xs : List Int} (hs : P.underlying src = some (.slice e)) (he : P.underlying e = some (.int .i32)) (hd : P.underlying dst = some .string)
    (h : w.ownsRow base e' 1 v n (nums .i32 xs)) : (convert src dst v).run P w = .ok (.string (runesBytes xs)) w := by
  have hl : xs.length = n := by have := h.1; simp [nums] at this; exact this
  rcases h.2 with ⟨rfl, rfl⟩ | ⟨g, cap, cur, rfl, _⟩
  · obtain rfl : xs = [] := List.eq_nil_of_length_eq_zero hl
    exact run_convert_runes_nil w src dst e 0 0 hs he hd
  · have := run_convert_runes w src dst e ⟨g, 0, none⟩ n cap xs (by omega) hs he hd (fun i hi => h.cells (g := g) rfl i (.int .i32 (xs.getD i 0)) (by simp [nums, List.getElem?_eq_getElem hi, List.getD_eq_getElem?_getD]))
    rw [this, List.take_of_length_le (by omega)]
theorem runesFrom_ascii (s : ByteArray) (ha : ∀ c ∈ s.data.toList, c.toNat < 128) : ∀ (bound i : Nat) (acc : Array Value), i + bound = s.size → Conv.runesFrom s bound i acc = acc ++ ((ofBs (s.data.toList.drop i)).map (Value.int .i32)).toArray
  | 0, i, acc, h => by
    rw [List.drop_eq_nil_of_le (by rw [size_l]; omega)]
    simp [Conv.runesFrom, ofBs]
  | bound + 1, i, acc, h => by
    have hlt : i < s.size := by omega
    have hlt' : i < s.data.toList.length := by rw [size_l]; exact hlt
    have hsc : s[i]'hlt = s.data.toList[i] := by simp; rfl
    have hdec : Utf8.decode s i = ((s.data.toList[i]).toNat, 1) := by rw [decode_ascii s i hlt (by rw [hsc]; exact ha _ (List.getElem_mem _)), hsc]
    have ih := runesFrom_ascii s ha bound (i + 1) (acc.push (.int .i32 ((s.data.toList[i]).toNat : Int))) (by omega)
    rw [Conv.runesFrom, if_pos hlt, hdec]
    show Conv.runesFrom s bound (i + 1) (acc.push (.int .i32 ((s.data.toList[i]).toNat : Int))) = _
    rw [ih, List.drop_eq_getElem_cons hlt']
    apply Array.ext'
    simp [ofBs]
theorem runes_of (s : ByteArray) (ha : ∀ c ∈ s.data.toList, c.toNat < 128) : Conv.runesFrom s s.size 0 #[] = ((ofBs s.data.toList).map (Value.int .i32)).toArray := by
  rw [runesFrom_ascii s ha s.size 0 #[] (by omega)]
  simp
/-- []rune(s) at an ASCII text: a new row of the call's own. -/
theorem conv_r (s : ByteArray) (ha : ∀ c ∈ s.data.toList, c.toNat < 128) (hs : s.size ≤ 2147483648) (w : World) (base : Nat) (hb : base ≤ w.heap.size) :
    ∃ (cap : Nat) (W1 : World), (convert 9 25 (.string s)).run Tryd.prog w = .ok (.slice (some ⟨w.heap.size, 0, none⟩) s.size cap) W1 ∧ W1.ownsRow base 21 1 (.slice (some ⟨w.heap.size, 0, none⟩) s.size cap) s.size (nums .i32 (ofBs s.data.toList)) ∧ Below w.heap.size w W1 := by
  have hr := runes_of s ha
  have hsz : (Conv.runesFrom s s.size 0 #[]).size = s.size := by rw [hr]; simp [ofBs]
  have h := run_runes_of_string (P := Tryd.prog) w 9 25 21 s Tryd.underlying9 Tryd.underlying25 Tryd.underlying21 (by omega)
  rw [hsz] at h
  have hge := grownCap_ge w s.size 0 21
  refine ⟨_, _, h, ⟨by simp [nums, ofBs], .inr ⟨w.heap.size, _, _, rfl, hb, heap_alloc_new w.drew _, hge, grownCap_le_maxLen w s.size 0 21 (by unfold maxLen; omega), ?_, ?_⟩⟩, below_alloc (below_drew1 (Below.refl _ _)) _⟩
  · rw [Array.size_append, hsz]; simp; omega
  · rw [hr]
    simp only [Array.toList_append, Nat.mul_one]
    rw [List.take_append_of_le_length (by simp [ofBs]), List.take_of_length_le (by simp [ofBs])]
    rfl
end Go.Proofs.YtapbnbinoakbhaaDoor.RRow
