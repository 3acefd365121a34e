/-
  Proved: what impl.HtmlCell returns without spans. Conditions: a text of at most 1000 bytes, a newline's text of at most 100.
-/
import Derived.Test.YtehlfbhlaoiioaaGreatDoorRHtmP
import Derived.Test.YtehlfbhlaoiioaaGreatDoorRBldS
import Derived.Test.YtehlfbhlaoiioaaGreatDoorRGEHx
import Derived.Laws.Tables
namespace Go.Proofs.YtehlfbhlaoiioaaGreatDoorR.HtmW
open Go.RowKit Go.Proofs.YtehlfbhlaoiioaaGreatDoorRW.PrintWords Go.Proofs.YtehlfbhlaoiioaaGreatDoorRW.PrintLast Go.Proofs.YtehlfbhlaoiioaaGreatDoorR.Common Go.Proofs.YtehlfbhlaoiioaaGreatDoorR.HtmP Go.Proofs.YtehlfbhlaoiioaaGreatDoorR.BldS Go.Proofs.YtehlfbhlaoiioaaGreatDoorR.GEH
set_option linter.unusedVariables false
set_option linter.unusedSimpArgs false

theorem ofBs_app (a b : List UInt8) : ofBs a ++ ofBs b = ofBs (a ++ b) := by unfold ofBs; rw [List.map_append]
theorem ofBs_len (a : List UInt8) : (ofBs a).length = a.length := by unfold ofBs; rw [List.length_map]
theorem escape_loop (s : ByteArray) (hs : s.size ≤ 1000000) (d : Nat) : ∀ (i : Nat) (acc : List UInt8), i + d = s.size → acc.length + 5 * d ≤ 100000000 → Ev (fun k => table_zzEscape.l0 k s (ofBs acc) (i : Int)) (ofL (acc ++ escL (s.data.toList.drop i))) := by
  induction d with
  | zero =>
    intro i acc hi ha
    rw [List.drop_eq_nil_of_le (by rw [size_l]; omega)]
    refine Ev.step (f := fun _ => some (ofL (acc ++ escL []))) (fun k => ?_) (Ev.now _)
    simp only [table_zzEscape.l0]
    rw [if_neg (by omega)]
    unfold ofBs
    rw [str_nums]
    simp [escL]
  | succ d ih =>
    intro i acc hi ha
    have hlt : i < s.size := by omega
    have hlt' : i < s.data.toList.length := by rw [size_l]; exact hlt
    obtain ⟨c, hc⟩ : ∃ c, c = s.data.toList[i] := ⟨_, rfl⟩
    have hbt : bt s (i : Int) = (c.toNat : Int) := by rw [bt_get s i hlt, hc]
    have hd : s.data.toList.drop i = c :: s.data.toList.drop (i + 1) := by rw [hc]; exact List.drop_eq_getElem_cons hlt'
    have hw : wrap64 ((i : Int) + 1) = ((i + 1 : Nat) : Int) := by rw [w64 _ (by omega) (by omega)]; rfl
    have h5 := escOne_len c
    have h1 := ih (i + 1) (acc ++ escOne c) (by omega) (by rw [List.length_append]; omega)
    rw [hd, escL, List.flatMap_cons, ← escL, ← List.append_assoc]
    refine Ev.step (f := fun k => table_zzEscape.l0 k s (ofBs (acc ++ escOne c)) ((i + 1 : Nat) : Int)) (fun k => ?_) h1
    have nat_eq : ∀ m : UInt8, ((c.toNat : Int) = (m.toNat : Int)) ↔ c = m := fun m => ⟨fun e => UInt8.toNat_inj.1 (by omega), fun e => by rw [e]⟩
    have m60 : ((c.toNat : Int) = 60) ↔ c = 60 := nat_eq 60
    have m62 : ((c.toNat : Int) = 62) ↔ c = 62 := nat_eq 62
    have m38 : ((c.toNat : Int) = 38) ↔ c = 38 := nat_eq 38
    have m39 : ((c.toNat : Int) = 39) ↔ c = 39 := nat_eq 39
    have m34 : ((c.toNat : Int) = 34) ↔ c = 34 := nat_eq 34
    simp only [table_zzEscape.l0]
    rw [if_pos (by omega), if_pos (by omega), hbt, hw, ← ofBs_app]
    unfold escOne
    by_cases e1 : c = 60
    · rw [if_pos (m60.2 e1), if_pos (by rw [ofBs_len]; omega), if_pos e1]; rfl
    · rw [if_neg (fun e => e1 (m60.1 e)), if_neg e1]
      by_cases e2 : c = 62
      · rw [if_pos (m62.2 e2), if_pos (by rw [ofBs_len]; omega), if_pos e2]; rfl
      · rw [if_neg (fun e => e2 (m62.1 e)), if_neg e2]
        by_cases e3 : c = 38
        · rw [if_pos (m38.2 e3), if_pos (by rw [ofBs_len]; omega), if_pos e3]; rfl
        · rw [if_neg (fun e => e3 (m38.1 e)), if_neg e3]
          by_cases e4 : c = 39
          · rw [if_pos (m39.2 e4), if_pos (by rw [ofBs_len]; omega), if_pos e4]; rfl
          · rw [if_neg (fun e => e4 (m39.1 e)), if_neg e4]
            by_cases e5 : c = 34
            · rw [if_pos (m34.2 e5), if_pos (by rw [ofBs_len]; omega), if_pos e5]; rfl
            · rw [if_neg (fun e => e5 (m34.1 e)), if_neg e5, if_pos (by rw [ofBs_len]; omega)]; rfl
theorem escape_c (s : ByteArray) (hs : s.size ≤ 1000000) (W : World) :
    Calls Tryz.prog 12 #[.string s] W fun e w' => e = .returned (.string (ofL (escL s.data.toList))) ∧ Below W.heap.size W w' := by
  have h := escape_loop s hs s.size 0 [] (by omega) (by simp; omega)
  rw [List.drop_zero, List.nil_append] at h
  obtain ⟨k, hk⟩ := Ev.rounds (g := fun k => table_zzEscape.f k s) h
  exact table_zzEscape.calls k s _ W hk
theorem index_e (s sub : ByteArray) (hs : s.size ≤ 4611686018427387904) (hb : sub.size ≤ 2305843009213693952) : Ev (fun k => table_zzIndex.f k s sub) (idxOf sub.data.toList s.data.toList) :=
  index_ev table_zzIndex.l0 (fun k x0 x1 x5 => by simp only [table_zzIndex.l0]) s sub hs hb
theorem nl_c (s new : ByteArray) (W : World) (hs : s.size ≤ 100000) (hn : new.size ≤ 100000) :
    Calls Tryz.prog 13 #[.string s, .string ⟨#[10]⟩, .string new] W fun e w' => e = .returned (.string (ofL (nlL new.data.toList s.data.toList))) ∧ Below W.heap.size W w' := by
  have h := repl_ev table_zzIndex.f table_zzReplaceAll.l1 index_e (fun k x0 x1 x2 x7 => by simp only [table_zzReplaceAll.l1]) table_zzReplaceAll.f (fun k a0 a1 a2 h => by unfold table_zzReplaceAll.f; rw [if_neg h]) s ⟨#[10]⟩ new (by decide) (by decide) (by omega) (by
    have : s.size * (new.size + 1) ≤ 100000 * 100001 := Nat.mul_le_mul hs (by omega)
    omega)
  have e : replL (⟨#[10]⟩ : ByteArray).data.toList new.data.toList s.size s.data.toList = nlL new.data.toList s.data.toList :=
    repl_one 10 new.data.toList s.data.toList s.size (by rw [size_l]; exact Nat.le_refl _)
  rw [e] at h
  obtain ⟨k, hk⟩ := Ev.rounds h
  exact table_zzReplaceAll.calls k _ _ _ _ W hk
/-- what the table and its style hold -/
structure Tb (bt bs : Nat) (esc : Bool) (nl : ByteArray) (W : World) : Prop where
  t39 : W.cell? ⟨bt, 39, none⟩ = some (.pointer (some ⟨bs, 0, none⟩))
  s38 : W.cell? ⟨bs, 38, none⟩ = some (.bool false)
  s41 : W.cell? ⟨bs, 41, none⟩ = some (.bool esc)
  s42 : W.cell? ⟨bs, 42, none⟩ = some (.string nl)
theorem Tb.below {bt bs : Nat} {esc : Bool} {nl : ByteArray} {W W' : World} (h : Tb bt bs esc nl W) (ht : bt < W.heap.size) (hs : bs < W.heap.size) (hb : Below W.heap.size W W') : Tb bt bs esc nl W' :=
  ⟨(hb.cell ht).trans h.t39, (hb.cell hs).trans h.s38, (hb.cell hs).trans h.s41, (hb.cell hs).trans h.s42⟩
set_option maxHeartbeats 8000000 in
set_option maxRecDepth 1000000 in
theorem render_c (bt bs B : Nat) (esc : Bool) (nl s : ByteArray) (W0 W : World) (hT : Tb bt bs esc nl W) (ht : bt < W.heap.size) (hss : bs < W.heap.size) (hB : BS B W0 [] 0 W) (hs : s.size ≤ 1000) (hn : nl.size ≤ 100) :
    Calls Tryz.prog 9 #[.pointer (some ⟨bt, 0, none⟩), .pointer (some ⟨B, 0, none⟩), .string s] W fun e w' => e = .returned (.tuple #[]) ∧ ∃ m, BS B W0 (htm esc nl.data.toList s.data.toList) m w' := by
  have HB := Aside0.mk hB
  clear hB
  have HT := Aside0.mk hT
  cases esc with
  | false =>
    by_cases hnl : nl = ⟨#[10]⟩
    · subst hnl
      have q39 := hT.t39
      have q38 := hT.s38
      have q41 := hT.s41
      have q42 := hT.s42
      clear hT
      have HE : Aside0 (htm false (⟨#[10]⟩ : ByteArray).data.toList s.data.toList = s.data.toList) := ⟨by rw [htm]; simp only [Bool.false_eq_true, if_false]; exact nl_id _⟩
      go_enter Tryz.func9, Tryz.ntmps9
      go_wp2_with (go_at_call 14; with_reducible refine (wrString s HB.out (by omega)).mono ?_; rintro e w1 ⟨v, rfl, hb⟩; have HB1 := Aside0.mk hb; clear hb)
      have FIN := HB1.out
      rw [List.nil_append, ← HE.out] at FIN
      go_end0
      exact ⟨rfl, _, FIN⟩
    · have q39 := hT.t39
      have q38 := hT.s38
      have q41 := hT.s41
      have q42 := hT.s42
      clear hT
      have hne : (nl.toList == [10]) = false := beq_eq_false_iff_ne.2 fun e => hnl (by apply WideShapes.bytes_inj; rw [← tl, e])
      have hne2 : (!(nl.toList == [10])) = true := by rw [hne]; rfl
      have C := fun W => Aside0.mk (nl_c s nl W (by omega) (by omega))
      obtain ⟨z, hz⟩ : ∃ z, z = ofL (nlL nl.data.toList s.data.toList) := ⟨_, rfl⟩
      have hzs : z.size ≤ 200000 := by
        rw [hz, ← size_l, ofL_data]
        have h1 := nlL_len nl.data.toList s.data.toList
        rw [size_l, size_l] at h1
        have h2 : (nl.size + 1) * s.size ≤ 101 * 1000 := Nat.mul_le_mul (by omega) hs
        omega
      rw [← hz] at C
      have HE : Aside0 (htm false nl.data.toList s.data.toList = z.data.toList) := ⟨by rw [htm, hz]; simp only [Bool.false_eq_true, if_false]; rfl⟩
      clear hz
      go_enter Tryz.func9, Tryz.ntmps9
      go_wp2_with (first
        | (go_at_call 13; refine (C _).out.mono ?_; rintro e w1 ⟨rfl, hb⟩; have HB1 := Aside0.mk (HB.out.below hb); clear hb HB; have HB := HB1; clear HB1)
        | (go_at_call 14; with_reducible refine (wrString z HB.out (by omega)).mono ?_; rintro e w1 ⟨v, rfl, hb⟩; have HB1 := Aside0.mk hb; clear hb))
      have FIN := HB1.out
      rw [List.nil_append, ← HE.out] at FIN
      go_end0
      exact ⟨rfl, _, FIN⟩
  | true =>
    obtain ⟨y, hy⟩ : ∃ y, y = ofL (escL s.data.toList) := ⟨_, rfl⟩
    have hys : y.size ≤ 5000 := by
      rw [hy, ← size_l, ofL_data]
      have h1 := escL_len s.data.toList
      rw [size_l] at h1
      omega
    have E := fun W => Aside0.mk (escape_c s (by omega) W)
    rw [← hy] at E
    have HY : Aside0 (escL s.data.toList = y.data.toList) := ⟨by rw [hy, ofL_data]⟩
    clear hy
    by_cases hnl : nl = ⟨#[10]⟩
    · subst hnl
      have q39 := hT.t39
      have q38 := hT.s38
      have q41 := hT.s41
      clear hT
      have HE : Aside0 (htm true (⟨#[10]⟩ : ByteArray).data.toList s.data.toList = y.data.toList) := ⟨by rw [htm]; simp only [if_true]; rw [HY.out]; exact nl_id _⟩
      go_enter Tryz.func9, Tryz.ntmps9
      go_wp2_with (first
        | (go_at_call 12; refine (E _).out.mono ?_; rintro e w1 ⟨rfl, hb⟩; have HT1 := HT.out.below ht hss hb; have HB1 := Aside0.mk (HB.out.below hb); clear hb HB; have HB := HB1; clear HB1; have r39 := HT1.t39; have r42 := HT1.s42; clear HT1)
        | (go_at_call 14; with_reducible refine (wrString y HB.out (by omega)).mono ?_; rintro e w1 ⟨v, rfl, hb⟩; have HB1 := Aside0.mk hb; clear hb))
      have FIN := HB1.out
      rw [List.nil_append, ← HE.out] at FIN
      go_end0
      exact ⟨rfl, _, FIN⟩
    · have q39 := hT.t39
      have q38 := hT.s38
      have q41 := hT.s41
      clear hT
      have hne : (nl.toList == [10]) = false := beq_eq_false_iff_ne.2 fun e => hnl (by apply WideShapes.bytes_inj; rw [← tl, e])
      have hne2 : (!(nl.toList == [10])) = true := by rw [hne]; rfl
      have C := fun W => Aside0.mk (nl_c y nl W (by omega) (by omega))
      obtain ⟨z, hz⟩ : ∃ z, z = ofL (nlL nl.data.toList y.data.toList) := ⟨_, rfl⟩
      have hzs : z.size ≤ 1000000 := by
        rw [hz, ← size_l, ofL_data]
        have h1 := nlL_len nl.data.toList y.data.toList
        rw [size_l, size_l] at h1
        have h2 : (nl.size + 1) * y.size ≤ 101 * 5000 := Nat.mul_le_mul (by omega) hys
        omega
      rw [← hz] at C
      have HE : Aside0 (htm true nl.data.toList s.data.toList = z.data.toList) := ⟨by rw [htm, hz]; simp only [if_true]; rw [HY.out]; rfl⟩
      clear hz
      go_enter Tryz.func9, Tryz.ntmps9
      go_wp2_with (first
        | (go_at_call 12; refine (E _).out.mono ?_; rintro e w1 ⟨rfl, hb⟩; have HT1 := HT.out.below ht hss hb; have HB1 := Aside0.mk (HB.out.below hb); clear hb HB; have HB := HB1; clear HB1; have r39 := HT1.t39; have r42 := HT1.s42; clear HT1)
        | (go_at_call 13; refine (C _).out.mono ?_; rintro e w1 ⟨rfl, hb⟩; have HB1 := Aside0.mk (HB.out.below hb); clear hb HB; have HB := HB1; clear HB1)
        | (go_at_call 14; with_reducible refine (wrString z HB.out (by omega)).mono ?_; rintro e w1 ⟨v, rfl, hb⟩; have HB1 := Aside0.mk hb; clear hb))
      have FIN := HB1.out
      rw [List.nil_append, ← HE.out] at FIN
      go_end0
      exact ⟨rfl, _, FIN⟩
end Go.Proofs.YtehlfbhlaoiioaaGreatDoorR.HtmW
