/-
  Proved: contracts of zzReplaceAll, zzContains and zzSplit as text.ProcessCRLF calls them. Conditions: texts of at most 100000 bytes.
-/
import Derived.Test.YtjoagjkmghmnnaaCrlf
import Derived.Test.YtjoagjkmghmnnaaTxRet
import Derived.Test.YtjoagjkmghmnnaaGEx
import Derived.Laws.IdiomStrings
namespace Go.Proofs.Ytjoagjkmghmnnaa.CrlfC
open Go.RowKit Go.Proofs.YtjoagjkmghmnnaaW.PrintWords Go.Proofs.YtjoagjkmghmnnaaW.PrintLast Go.Proofs.Ytjoagjkmghmnnaa.Common Go.Proofs.Ytjoagjkmghmnnaa.Crlf Go.Proofs.Ytjoagjkmghmnnaa.TxRet Go.Proofs.Ytjoagjkmghmnnaa.GE
set_option linter.unusedVariables false
set_option linter.unusedSimpArgs false

theorem index_e (s sub : ByteArray) (hs : s.size ≤ 4611686018427387904) (hb : sub.size ≤ 2305843009213693952) : Ev (fun k => text_zzIndex.f k s sub) (idxOf sub.data.toList s.data.toList) :=
  index_ev text_zzIndex.l0 (fun k x0 x1 x5 => by simp only [text_zzIndex.l0]) s sub hs hb
theorem repl_c (s : ByteArray) (W : World) (hs : s.size ≤ 100000) :
    Calls Try.prog 112 #[.string s, .string ⟨#[13, 10]⟩, .string ⟨#[10]⟩] W fun e w' => e = .returned (.string (ofL (crlf s.data.toList))) ∧ Below W.heap.size W w' := by
  have h := repl_ev text_zzIndex.f text_zzReplaceAll.l1 index_e (fun k x0 x1 x2 x7 => by simp only [text_zzReplaceAll.l1]) text_zzReplaceAll.f (fun k a0 a1 a2 h => by unfold text_zzReplaceAll.f; rw [if_neg h]) s ⟨#[13, 10]⟩ ⟨#[10]⟩ (by decide) (by decide) (by omega) (by show s.size * (1 + 1) < _; omega)
  have e : replL (⟨#[13, 10]⟩ : ByteArray).data.toList (⟨#[10]⟩ : ByteArray).data.toList s.size s.data.toList = crlf s.data.toList :=
    repl_crlf s.data.toList.length s.data.toList s.size (Nat.le_refl _) (by rw [size_l]; exact Nat.le_refl _)
  rw [e] at h
  obtain ⟨k, hk⟩ := Ev.rounds h
  exact text_zzReplaceAll.calls k _ _ _ _ W hk
theorem cont_c (t : ByteArray) (b : Bool) (hb : decide (13 ∈ t.data.toList) = b) (W : World) (hs : t.size ≤ 100000) :
    Calls Try.prog 113 #[.string t, .string ⟨#[13]⟩] W fun e w' => e = .returned (.bool b) ∧ Drawn0 W w' := by
  have h : Ev (fun k => text_zzContains.f k t ⟨#[13]⟩) b := by
    refine Ev.bind (index_e t ⟨#[13]⟩ (by omega) (by decide)) ⟨0, fun k _ => ?_⟩
    show some (decide (idxOf [13] t.data.toList ≥ 0)) = some b
    rw [has_of_idx, has_one, hb]
  obtain ⟨k, hk⟩ := Ev.rounds h
  exact text_zzContains.calls k _ _ _ W hk
theorem split_c (t : ByteArray) (W : World) (hs : t.size ≤ 100000) :
    Calls Try.prog 114 #[.string t, .string ⟨#[10]⟩] W fun e w' => ∃ v : Value, e = .returned v ∧ w'.ownsRow W.heap.size 9 1 v (partsOf 10 t.data.toList).length (encs Value.string ((partsOf 10 t.data.toList).map ofL)) ∧ Below W.heap.size W w' := by
  have h1 := split_loop text_zzIndex.f text_zzSplit.l1 index_e (fun k x0 x1 x5 => by simp only [text_zzSplit.l1]) (⟨#[10]⟩ : ByteArray) (by decide) (by decide) t.size t [] (Nat.le_refl _) (by omega) (by simp; omega)
  rw [List.nil_append, show (⟨#[10]⟩ : ByteArray).data.toList = [10] from rfl, split_parts 10 t.data.toList t.size (by rw [size_l]; exact Nat.le_refl _)] at h1
  have h : Ev (fun k => text_zzSplit.f k t ⟨#[10]⟩) ((partsOf 10 t.data.toList).map ofL) := by
    refine Ev.congr (fun k => ?_) h1
    unfold text_zzSplit.f
    rw [if_neg (by decide)]
  obtain ⟨k, hk⟩ := Ev.rounds h
  refine (text_zzSplit.calls k _ _ _ W hk).mono ?_
  rintro e w' ⟨v, rfl, hr, hb⟩
  have ho := Kd.own_of_R hr
  rw [List.length_map] at ho
  exact ⟨v, rfl, ho, hb⟩
theorem split_n (t : ByteArray) (n : Nat) (hn : n = (partsOf 10 t.data.toList).length) (W : World) (hs : t.size ≤ 100000) :
    Calls Try.prog 114 #[.string t, .string ⟨#[10]⟩] W fun e w' => ∃ g cap : Nat, e = .returned (.slice (some ⟨g, 0, none⟩) n cap) ∧ w'.ownsRow W.heap.size 9 1 (.slice (some ⟨g, 0, none⟩) n cap) n (encs Value.string ((partsOf 10 t.data.toList).map ofL)) ∧ Below W.heap.size W w' := by
  refine (split_c t W hs).mono ?_
  rintro e w' ⟨v, rfl, ho, hb⟩
  obtain ⟨g, cap, rfl, _, _⟩ := ho.form (List.length_pos_iff.2 (partsOf_ne _ _))
  subst hn
  exact ⟨g, cap, rfl, ho, hb⟩
theorem runesFrom_ascii (s : ByteArray) (ha : ∀ c ∈ s.data.toList, c.toNat < 128) : ∀ (bound i : Nat) (acc : Array Value), i + bound = s.size → Conv.runesFrom s bound i acc = acc ++ ((ofBs (s.data.toList.drop i)).map (Value.int .i32)).toArray
  | 0, i, acc, h => by
    rw [List.drop_eq_nil_of_le (by rw [size_l]; omega)]
    simp [Conv.runesFrom, ofBs]
  | bound + 1, i, acc, h => by
    have hlt : i < s.size := by omega
    have hlt' : i < s.data.toList.length := by rw [size_l]; exact hlt
    have hsc : s[i]'hlt = s.data.toList[i] := by simp; rfl
    have hdec : Utf8.decode s i = ((s.data.toList[i]).toNat, 1) := by rw [decode_ascii s i hlt (by rw [hsc]; exact ha _ (List.getElem_mem _)), hsc]
    have ih := runesFrom_ascii s ha bound (i + 1) (acc.push (.int .i32 ((s.data.toList[i]).toNat : Int))) (by omega)
    rw [Conv.runesFrom, if_pos hlt, hdec]
    show Conv.runesFrom s bound (i + 1) (acc.push (.int .i32 ((s.data.toList[i]).toNat : Int))) = _
    rw [ih, List.drop_eq_getElem_cons hlt']
    apply Array.ext'
    simp [ofBs]
theorem runes_of (s : ByteArray) (ha : ∀ c ∈ s.data.toList, c.toNat < 128) : Conv.runesFrom s s.size 0 #[] = ((ofBs s.data.toList).map (Value.int .i32)).toArray := by
  rw [runesFrom_ascii s ha s.size 0 #[] (by omega)]
  simp
/-- []rune(s) at an ASCII text: a new block whose first cells are the bytes. -/
theorem conv_c (s : ByteArray) (ha : ∀ c ∈ s.data.toList, c.toNat < 128) (hs : s.size ≤ 100000) :
    ∃ (cap : World → Nat) (X : World → Array Value), (∀ W, (convert 9 131 (.string s)).run Try.prog W = .ok (.slice (some ⟨W.heap.size, 0, none⟩) s.size (cap W)) (W.drew.alloc (.cells (X W) 21))) ∧ ∀ W j (h : j < s.data.toList.length), (X W)[j]? = some (.int .i32 ((s.data.toList[j]).toNat : Int)) := by
  have hr := runes_of s ha
  have hsz : (Conv.runesFrom s s.size 0 #[]).size = s.size := by rw [hr]; simp [ofBs]
  have h := fun W => run_runes_of_string (P := Try.prog) W 9 131 21 s Try.underlying9 Try.underlying131 Try.underlying21 (by omega)
  rw [hsz] at h
  refine ⟨_, _, h, fun W j hj => ?_⟩
  have hj' : j < (ofBs s.data.toList).length := by rw [ofBs_len]; exact hj
  rw [Array.getElem?_append_left (by rw [hsz, ← size_l]; exact hj), hr]
  simp [ofBs, List.getElem?_eq_getElem hj]
end Go.Proofs.Ytjoagjkmghmnnaa.CrlfC
