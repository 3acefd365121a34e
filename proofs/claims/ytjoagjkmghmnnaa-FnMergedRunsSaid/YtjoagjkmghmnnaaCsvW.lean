/-
  Proved: what table.csvRenderRow writes: the walk. Conditions: cells of at most 2000 bytes, at most 2000 of them, at most 300 columns.
-/
import Derived.Test.YtjoagjkmghmnnaaCsvP
import Derived.Test.YtjoagjkmghmnnaaBld
import Derived.Test.YtjoagjkmghmnnaaGEBx
import Derived.Deep.LoopGhost
namespace Go.Proofs.Ytjoagjkmghmnnaa.CsvW
open Go.RowKit Go.Proofs.YtjoagjkmghmnnaaW.PrintWords Go.Proofs.YtjoagjkmghmnnaaW.PrintLast Go.Proofs.Ytjoagjkmghmnnaa.Common Go.Proofs.Ytjoagjkmghmnnaa.AnyOf Go.Proofs.Ytjoagjkmghmnnaa.ItoaAll Go.Proofs.Ytjoagjkmghmnnaa.CsvP Go.Proofs.Ytjoagjkmghmnnaa.Bld Go.Proofs.Ytjoagjkmghmnnaa.GEB
set_option linter.unusedVariables false
set_option linter.unusedSimpArgs false

theorem index_e (s sub : ByteArray) (hs : s.size ≤ 4611686018427387904) (hb : sub.size ≤ 2305843009213693952) : Ev (fun k => table_zzIndex.f k s sub) (idxOf sub.data.toList s.data.toList) :=
  index_ev table_zzIndex.l0 (fun k x0 x1 x5 => by simp only [table_zzIndex.l0]) s sub hs hb
theorem dup_c (s : ByteArray) (W : World) (hs : s.size ≤ 100000) :
    Calls Try.prog 145 #[.string s, .string ⟨#[34]⟩, .string ⟨#[34, 34]⟩] W fun e w' => e = .returned (.string (ofL (dup s.data.toList))) ∧ Below W.heap.size W w' := by
  have h := repl_ev table_zzIndex.f table_zzReplaceAll.l1 index_e (fun k x0 x1 x2 x7 => by simp only [table_zzReplaceAll.l1]) table_zzReplaceAll.f (fun k a0 a1 a2 h => by unfold table_zzReplaceAll.f; rw [if_neg h]) s ⟨#[34]⟩ ⟨#[34, 34]⟩ (by decide) (by decide) (by omega) (by show s.size * (2 + 1) < _; omega)
  have e : replL (⟨#[34]⟩ : ByteArray).data.toList (⟨#[34, 34]⟩ : ByteArray).data.toList s.size s.data.toList = dup s.data.toList :=
    repl_one 34 [34, 34] s.data.toList s.size (by rw [size_l]; exact Nat.le_refl _)
  rw [e] at h
  obtain ⟨k, hk⟩ := Ev.rounds h
  exact table_zzReplaceAll.calls k _ _ _ _ W hk
set_option maxRecDepth 100000 in
theorem esc_c (bt : Nat) (s t : ByteArray) (ht : t = ofL (dup s.data.toList)) (W : World) (hs : s.size ≤ 100000) :
    Calls Try.prog 135 #[.pointer (some ⟨bt, 0, none⟩), .string s] W fun e w' => e = .returned (.string t) ∧ Below W.heap.size W w' := by
  subst ht
  have C := fun W => Aside0.mk (dup_c s W hs)
  go_enter Try.func135, Try.ntmps135
  go_wp2_with (go_at_call 145; refine (C _).out.mono ?_; rintro e w1 ⟨rfl, hb⟩)
  go_ret
  exact ⟨rfl, hb⟩
set_option maxRecDepth 100000 in
set_option maxHeartbeats 1000000 in
theorem prot_c (bt : Nat) (s t : ByteArray) (h0 : 0 < s.size) (hs : s.size ≤ 100000) (ht : t = ofL (prot true s.data.toList)) (W : World) :
    Calls Try.prog 133 #[.pointer (some ⟨bt, 0, none⟩), .string s] W fun e w' => e = .returned (.string t) ∧ w' = W := by
  obtain ⟨c, l, hl⟩ : ∃ c l, s.data.toList = c :: l := by
    cases h : s.data.toList with
    | nil => rw [← size_l, h] at h0; simp at h0
    | cons c l => exact ⟨c, l, rfl⟩
  have h0' : (0 : Nat) < s.data.toList.length := by rw [size_l]; exact h0
  have hs0 : s[0]'h0 = c := by
    have : s.data.toList[0]'h0' = c := by simp [hl]
    rw [← this]; simp; rfl
  have HT : Aside0 (t = ofL (if risky c = true then 39 :: c :: l else c :: l)) := ⟨by rw [ht, hl, prot]; simp⟩
  have HSL : Aside0 (s = ofL (c :: l)) := ⟨by rw [← hl, ofL_of]⟩
  have HAP : Aside0 ((⟨#[39]⟩ : ByteArray) ++ s = ofL (39 :: c :: l)) := ⟨by apply WideShapes.bytes_inj; simp [ofL, hl]⟩
  clear hl ht h0'
  have fin : ∀ b, risky c = b → Aside0 (t = if b = true then (⟨#[39]⟩ : ByteArray) ++ s else s) := fun b hb => ⟨by
    rw [HT.out, hb]
    cases b
    · simp only [Bool.false_eq_true, if_false]; rw [← HSL.out]
    · simp only [if_true]; rw [HAP.out]⟩
  by_cases hr : risky c = true
  · have F := fin true hr
    simp only [if_true] at F
    have hc : c = 61 ∨ c = 43 ∨ c = 45 ∨ c = 64 ∨ c = 9 ∨ c = 13 := by simpa [risky, or_assoc] using hr
    clear fin hr HT HSL HAP
    have hsum : 1 + s.size ≤ 9223372036854775807 := by omega
    rcases hc with rfl | rfl | rfl | rfl | rfl | rfl
    all_goals
      have hz : ((s[0]'h0).toNat : Int) = _ := congrArg (fun x : UInt8 => (x.toNat : Int)) hs0
      go_enter Try.func133, Try.ntmps133
      go_wp2
      go_ret
      exact ⟨by rw [F.out]; rfl, rfl⟩
  · have F := fin false (by simpa using hr)
    simp only [Bool.false_eq_true, if_false] at F
    have hc : ¬ c = 61 ∧ ¬ c = 43 ∧ ¬ c = 45 ∧ ¬ c = 64 ∧ ¬ c = 9 ∧ ¬ c = 13 := by simpa [risky, and_assoc] using hr
    obtain ⟨c1, c2, c3, c4, c5, c6⟩ := hc
    have n1 : ¬ (((s[0]'h0).toNat : Int) = 61) := fun e => c1 (by rw [← hs0]; exact UInt8.toNat_inj.1 (by have : (61 : UInt8).toNat = 61 := rfl; omega))
    have n2 : ¬ (((s[0]'h0).toNat : Int) = 43) := fun e => c2 (by rw [← hs0]; exact UInt8.toNat_inj.1 (by have : (43 : UInt8).toNat = 43 := rfl; omega))
    have n3 : ¬ (((s[0]'h0).toNat : Int) = 45) := fun e => c3 (by rw [← hs0]; exact UInt8.toNat_inj.1 (by have : (45 : UInt8).toNat = 45 := rfl; omega))
    have n4 : ¬ (((s[0]'h0).toNat : Int) = 64) := fun e => c4 (by rw [← hs0]; exact UInt8.toNat_inj.1 (by have : (64 : UInt8).toNat = 64 := rfl; omega))
    have n5 : ¬ (((s[0]'h0).toNat : Int) = 9) := fun e => c5 (by rw [← hs0]; exact UInt8.toNat_inj.1 (by have : (9 : UInt8).toNat = 9 := rfl; omega))
    have n6 : ¬ (((s[0]'h0).toNat : Int) = 13) := fun e => c6 (by rw [← hs0]; exact UInt8.toNat_inj.1 (by have : (13 : UInt8).toNat = 13 := rfl; omega))
    clear fin hr HT HSL HAP c1 c2 c3 c4 c5 c6 hs0
    go_enter Try.func133, Try.ntmps133
    go_wp2
    go_ret
    exact ⟨by rw [F.out]; rfl, rfl⟩
theorem regular_c (bh : Nat) (W : World) (h5 : W.cell? ⟨bh, 5, none⟩ = some (.bool false)) (h6 : W.cell? ⟨bh, 6, none⟩ = some (.bool false)) :
    Calls Try.prog 131 #[.pointer (some ⟨bh, 0, none⟩)] W fun e w' => e = .returned (.bool true) ∧ w' = W := by
  go_enter Try.func131, Try.ntmps131
  go_wp2
  go_ret
  exact ⟨rfl, rfl⟩
theorem rune_c (y : ByteArray) (hs : y.size ≤ 100000) (W : World) :
    Calls Try.prog 136 #[.string y] W fun e w' => ∃ c : Nat, e = .returned (.int .i64 c) ∧ (0 < y.size → 0 < c) ∧ Below W.heap.size W w' := by
  refine (Try.utf8_RuneCountInString y W (by omega)).mono ?_
  rintro e w' ⟨rfl, pos, rfl⟩
  refine ⟨_, rfl, fun h => ?_, (Below.refl _ W).alloc (Nat.le_refl _) _⟩
  unfold Lib.runeCount
  obtain ⟨k, hk⟩ : ∃ k, y.size = k + 1 := ⟨y.size - 1, by omega⟩
  rw [hk, Lib.runeCountFrom, if_pos (by omega)]
  omega
theorem prot_off {p : Bool} {x : ByteArray} (h : p = false ∨ x.size = 0) : ofL (prot p x.data.toList) = x := by
  cases hx : x.data.toList with
  | nil => rw [prot, ← hx, ofL_of]
  | cons c t =>
    rcases h with h | h
    · rw [h, prot]; simp only [Bool.false_eq_true, false_and, if_false]; rw [← hx, ofL_of]
    · rw [← size_l, hx] at h; simp at h
theorem prot_size (p : Bool) (x : ByteArray) : (ofL (prot p x.data.toList)).size ≤ x.size + 1 := by
  rw [← size_l, ofL_data, ← size_l x]; exact prot_len _ _
theorem dup_size (y : ByteArray) : (ofL (dup y.data.toList)).size ≤ 2 * y.size := by
  rw [← size_l, ofL_data, ← size_l y]; exact dup_len _
theorem rune0 (W : World) : Calls Try.prog 136 #[.string ⟨#[]⟩] W fun e w' => e = .returned (.int .i64 0) ∧ Below W.heap.size W w' := by
  refine (Try.utf8_RuneCountInString ⟨#[]⟩ W (by decide)).mono ?_
  rintro e w' ⟨rfl, pos, rfl⟩
  exact ⟨rfl, (Below.refl _ W).alloc (Nat.le_refl _) _⟩
/-- what the table, its style and the hint hold -/
structure Tb (bt bs bh B : Nat) (p index : Bool) (number columns : Int) (W : World) : Prop where
  t1 : W.cell? ⟨bt, 1, none⟩ = some (.bool index)
  t14 : W.cell? ⟨bt, 14, none⟩ = some (.int .i64 columns)
  t39 : W.cell? ⟨bt, 39, none⟩ = some (.pointer (some ⟨bs, 0, none⟩))
  s27 : W.cell? ⟨bs, 27, none⟩ = some (.bool p)
  lt : bt < B
  ls : bs < B
theorem Tb.now {bt bs bh B m : Nat} {p index : Bool} {number columns : Int} {W0 W : World} {acc : List UInt8} (h : Tb bt bs bh B p index number columns W0) (hb : BS B W0 acc m W) : Tb bt bs bh B p index number columns W :=
  ⟨hb.cell h.lt h.t1, hb.cell h.lt h.t14, hb.cell h.lt h.t39, hb.cell h.ls h.s27, h.lt, h.ls⟩
theorem cell_now {B m k : Nat} {W0 W : World} {acc : List UInt8} {A : Option Addr} {cells : List ByteArray} {x : ByteArray} (hr : Kd.C Kd.string W0 A cells.length cells) (hbl : ∀ a, A = some a → 0 < cells.length → a.block < B) (hb : BS B W0 acc m W) (hx : cells[k]? = some x) :
    ∃ ad : Addr, A = some ad ∧ W.cell? (ad.add k) = some (.string x) := by
  have hlt := (List.getElem?_eq_some_iff.1 hx).1
  have h := Kd.reads_of_C (enc := Value.string) (d := ByteArray.empty) (h1 := fun _ => rfl) hr
  obtain ⟨ad, he, hc⟩ := h.2.2 (by omega)
  have hc2 := hc k hlt
  rw [List.getD_eq_getElem?_getD, hx] at hc2
  refine ⟨ad, he, hb.cell ?_ hc2⟩
  have := hbl ad he (by omega)
  unfold Addr.add
  split <;> exact this
theorem add_zero_ (a : Addr) : a.add 0 = a := by unfold Addr.add; split <;> simp_all
def hintV (number : Int) : Value := .agg #[.bool false, .bool false, .bool false, .bool false, .bool false, .bool false, .bool false, .bool false, .bool false, .bool false, .bool false, .int .i64 0, .int .i64 number, .int .i64 0]
set_option maxHeartbeats 40000000 in
set_option maxRecDepth 1000000 in
theorem row_c (bt bs B : Nat) (p index : Bool) (number columns : Int) (A : Option Addr) (cp : Nat) (cells : List ByteArray) (W0 : World)
    (hT : Tb bt bs 0 B p index number columns W0) (hB : BS B W0 [] 0 W0) (hr : Kd.C Kd.string W0 A cells.length cells) (hcp : cells.length ≤ cp) (hbelow : ∀ a, A = some a → 0 < cells.length → a.block < B)
    (hn0 : -9223372036854775808 ≤ number) (hn1 : number ≤ 9223372036854775807) (hc0 : 0 ≤ columns) (hc1 : columns ≤ 300) (hl : cells.length ≤ 2001) (hx : ∀ x ∈ cells, x.size ≤ 2000) :
    Calls Try.prog 117 #[.pointer (some ⟨bt, 0, none⟩), .pointer (some ⟨B, 0, none⟩), .slice A cells.length cp, hintV number] W0 fun e w' => e = .returned (.tuple #[]) ∧ ∃ m, BS B W0 (row p index number cells columns) m w' := by
  unfold hintV
  have HT := Aside0.mk hT
  have HB0 := Aside0.mk hB
  have HX := Aside0.mk hx
  clear hT hB hx
  go_enter Try.func117, Try.ntmps117
  go_wp2_with (go_at_call 129; refine (blen (B := B) (W0 := W0) (acc := []) (m := 0) ?hb).mono ?_; (case hb => exact HB0.out.below ((Below.refl _ _).alloc (Nat.le_refl _) _)); rintro e w1 ⟨rfl, rfl⟩)
  have HI0 := Aside0.mk (HB0.out.below ((Below.refl _ W0).alloc (Nat.le_refl _) (.cells #[.bool false, .bool false, .bool false, .bool false, .bool false, .bool false, .bool false, .bool false, .bool false, .bool false, .bool false, .int .i64 0, .int .i64 number, .int .i64 0] 164)))
  have HPT := Aside0.mk (part_len p index number hn0 hn1 cells HX.out)
  have HR := Aside0.mk hr
  have HBL := Aside0.mk hbelow
  clear hr hbelow
  go_loopw [18] (fun c wr => ∃ (k m : Nat), Value.int .i64 (k : Int) = c ∧ k ≤ cells.length ∧ m ≤ 5000 * k ∧ Aside0 (BS B W0 (CsvP.part p index number cells k) m wr) ∧ (k = 0 → wr.cell? ⟨W0.heap.size, 5, none⟩ = some (.bool false) ∧ wr.cell? ⟨W0.heap.size, 6, none⟩ = some (.bool false) ∧ wr.cell? ⟨W0.heap.size, 12, none⟩ = some (.int .i64 number))) (fun c _ => cells.length - (intOf c).toNat)
  case atStart => exact ⟨0, 0, rfl, by omega, by omega, HI0, fun _ => ⟨by simp, by simp, by simp⟩⟩
  case round =>
    obtain ⟨k, m, rfl, hk, hm, HI, hh⟩ := hrel
    by_cases hlt : k < cells.length
    · obtain ⟨x, hx⟩ : ∃ x, cells[k]? = some x := ⟨_, List.getElem?_eq_getElem hlt⟩
      have hxs : x.size ≤ 2000 := HX.out x (List.mem_of_getElem? hx)
      have hm2 : m ≤ 20000000 := by omega
      obtain ⟨ad, rfl, hcell⟩ := cell_now HR.out HBL.out HI.out hx
      have PS := Aside0.mk (part_succ p index number cells k x hx)
      have PL := Aside0.mk (HPT.out (k + 1) (by omega))
      have q := HT.out.now HI.out
      have q1 := q.t1
      have q14 := q.t14
      have q39 := q.t39
      have q27 := q.s27
      clear q hx hm
      by_cases hk0 : k = 0
      · subst hk0
        obtain ⟨h5, h6, h12⟩ := hh rfl
        clear hh
        rw [add_zero_] at hcell
        have hil := itoaL_len number hn0 hn1
        have hil2 : (ofL (itoaL number)).size ≤ 21 := by rw [← size_l, ofL_data]; exact hil
        cases index
        · have HP : Aside0 (pre false number 0 = []) := ⟨rfl⟩
          cases p
          · obtain ⟨y, hy⟩ : ∃ y, y = x := ⟨_, rfl⟩
            have HY : Aside0 (y.data.toList = prot false x.data.toList) := ⟨by rw [hy]; have := congrArg (fun b : ByteArray => b.data.toList) (prot_off (p := false) (x := x) (.inl rfl)); exact this.symm⟩
            have hys : y.size ≤ 2001 := by rw [hy]; omega
            rw [← hy] at hcell
            clear hy
            by_cases hsp : special y.data.toList = true
            · have HF : Aside0 (fld false x.data.toList = 34 :: ((ofL (dup y.data.toList)).data.toList ++ [34])) := ⟨by rw [fld, ← HY.out, if_pos hsp]; rfl⟩
              have AC := fun W => Aside0.mk (containsAny y ⟨#[34, 44, 10]⟩ true hsp (by omega) (by decide) (by decide) W)
              obtain ⟨z, hz⟩ : ∃ z, z = ofL (dup y.data.toList) := ⟨_, rfl⟩
              have hzs : z.size ≤ 4002 := by rw [hz]; have := dup_size y; omega
              have EC := fun W => Aside0.mk (esc_c bt y z hz W (by omega))
              rw [← hz] at HF
              clear hsp hz
              go_wp2_with (first
                | (go_at_call 131; refine (regular_c W0.heap.size _ h5 h6).mono ?_; rintro e w1 ⟨rfl, rfl⟩)
                | (go_at_call 132; refine (itoa number hn0 hn1 _).mono ?_; rintro e w1 ⟨rfl, hb⟩; have HI2 := Aside0.mk (HI.out.below hb); clear HI hb; have HI := HI2; clear HI2)
                | (go_at_call 130; (first | (with_reducible refine (wrRune 44 (by decide) 44 rfl HI.out (by omega)).mono ?_) | (with_reducible refine (wrRune 34 (by decide) 34 rfl HI.out (by omega)).mono ?_)); rintro e w1 ⟨v, rfl, hb⟩; have HI2 := Aside0.mk hb; clear HI hb; have HI := HI2; clear HI2; have q := HT.out.now HI.out; have q1 := q.t1; have q14 := q.t14; have q39 := q.t39; have q27 := q.s27; clear q)
                | (go_at_call 126; (refine (wrString _ HI.out (by omega)).mono ?_); rintro e w1 ⟨v, rfl, hb⟩; have HI2 := Aside0.mk hb; clear HI hb; have HI := HI2; clear HI2; have q := HT.out.now HI.out; have q1 := q.t1; have q14 := q.t14; have q39 := q.t39; have q27 := q.s27; clear q)
                | (go_at_call 133; refine (PC _).out.mono ?_; rintro e w1 ⟨rfl, rfl⟩)
                | (go_at_call 134; refine (AC _).out.mono ?_; rintro e w1 ⟨rfl, hb⟩; have HI2 := Aside0.mk (HI.out.below hb); clear HI hb; have HI := HI2; clear HI2)
                | (go_at_call 135; refine (EC _).out.mono ?_; rintro e w1 ⟨rfl, hb⟩; have HI2 := Aside0.mk (HI.out.below hb); clear HI hb; have HI := HI2; clear HI2)
                | (go_at_call 136; refine (RC _).out.mono ?_; rintro e w1 ⟨rc, rfl, hrc, hb⟩; have hrc2 := hrc hy0; have HI2 := Aside0.mk (HI.out.below hb); clear HI hb hrc; have HI := HI2; clear HI2)
                | (go_at_call 136; refine (RC0 _).out.mono ?_; rintro e w1 ⟨rfl, hb⟩; have HI2 := Aside0.mk (HI.out.below hb); clear HI hb; have HI := HI2; clear HI2))
              go_roundw
              case rel => exact ⟨0 + 1, _, by go_num, by omega, by omega, ⟨HI.out.mono (by rw [PS.out, HP.out, HF.out]; simp) (PL.out)⟩, fun h => by omega⟩
              case measure => simp [intOf]; omega
            · have HF : Aside0 (fld false x.data.toList = y.data.toList) := ⟨by rw [fld, ← HY.out, if_neg hsp]⟩
              have AC := fun W => Aside0.mk (containsAny y ⟨#[34, 44, 10]⟩ false (Bool.eq_false_iff.2 hsp) (by omega) (by decide) (by decide) W)
              clear hsp
              by_cases hy0 : 0 < y.size
              · have RC := fun W => Aside0.mk (rune_c y (by omega) W)
                go_wp2_with (first
                  | (go_at_call 131; refine (regular_c W0.heap.size _ h5 h6).mono ?_; rintro e w1 ⟨rfl, rfl⟩)
                  | (go_at_call 132; refine (itoa number hn0 hn1 _).mono ?_; rintro e w1 ⟨rfl, hb⟩; have HI2 := Aside0.mk (HI.out.below hb); clear HI hb; have HI := HI2; clear HI2)
                  | (go_at_call 130; (first | (with_reducible refine (wrRune 44 (by decide) 44 rfl HI.out (by omega)).mono ?_) | (with_reducible refine (wrRune 34 (by decide) 34 rfl HI.out (by omega)).mono ?_)); rintro e w1 ⟨v, rfl, hb⟩; have HI2 := Aside0.mk hb; clear HI hb; have HI := HI2; clear HI2; have q := HT.out.now HI.out; have q1 := q.t1; have q14 := q.t14; have q39 := q.t39; have q27 := q.s27; clear q)
                  | (go_at_call 126; (refine (wrString _ HI.out (by omega)).mono ?_); rintro e w1 ⟨v, rfl, hb⟩; have HI2 := Aside0.mk hb; clear HI hb; have HI := HI2; clear HI2; have q := HT.out.now HI.out; have q1 := q.t1; have q14 := q.t14; have q39 := q.t39; have q27 := q.s27; clear q)
                  | (go_at_call 133; refine (PC _).out.mono ?_; rintro e w1 ⟨rfl, rfl⟩)
                  | (go_at_call 134; refine (AC _).out.mono ?_; rintro e w1 ⟨rfl, hb⟩; have HI2 := Aside0.mk (HI.out.below hb); clear HI hb; have HI := HI2; clear HI2)
                  | (go_at_call 135; refine (EC _).out.mono ?_; rintro e w1 ⟨rfl, hb⟩; have HI2 := Aside0.mk (HI.out.below hb); clear HI hb; have HI := HI2; clear HI2)
                  | (go_at_call 136; refine (RC _).out.mono ?_; rintro e w1 ⟨rc, rfl, hrc, hb⟩; have hrc2 := hrc hy0; have HI2 := Aside0.mk (HI.out.below hb); clear HI hb hrc; have HI := HI2; clear HI2)
                  | (go_at_call 136; refine (RC0 _).out.mono ?_; rintro e w1 ⟨rfl, hb⟩; have HI2 := Aside0.mk (HI.out.below hb); clear HI hb; have HI := HI2; clear HI2))
                go_roundw
                case rel => exact ⟨0 + 1, _, by go_num, by omega, by omega, ⟨HI.out.mono (by rw [PS.out, HP.out, HF.out]; simp) (PL.out)⟩, fun h => by omega⟩
                case measure => simp [intOf]; omega
              · obtain rfl : y = ⟨#[]⟩ := by apply WideShapes.bytes_inj; exact List.eq_nil_of_length_eq_zero (by rw [size_l]; omega)
                have RC0 := fun W => Aside0.mk (rune0 W)
                go_wp2_with (first
                  | (go_at_call 131; refine (regular_c W0.heap.size _ h5 h6).mono ?_; rintro e w1 ⟨rfl, rfl⟩)
                  | (go_at_call 132; refine (itoa number hn0 hn1 _).mono ?_; rintro e w1 ⟨rfl, hb⟩; have HI2 := Aside0.mk (HI.out.below hb); clear HI hb; have HI := HI2; clear HI2)
                  | (go_at_call 130; (first | (with_reducible refine (wrRune 44 (by decide) 44 rfl HI.out (by omega)).mono ?_) | (with_reducible refine (wrRune 34 (by decide) 34 rfl HI.out (by omega)).mono ?_)); rintro e w1 ⟨v, rfl, hb⟩; have HI2 := Aside0.mk hb; clear HI hb; have HI := HI2; clear HI2; have q := HT.out.now HI.out; have q1 := q.t1; have q14 := q.t14; have q39 := q.t39; have q27 := q.s27; clear q)
                  | (go_at_call 126; (refine (wrString _ HI.out (by omega)).mono ?_); rintro e w1 ⟨v, rfl, hb⟩; have HI2 := Aside0.mk hb; clear HI hb; have HI := HI2; clear HI2; have q := HT.out.now HI.out; have q1 := q.t1; have q14 := q.t14; have q39 := q.t39; have q27 := q.s27; clear q)
                  | (go_at_call 133; refine (PC _).out.mono ?_; rintro e w1 ⟨rfl, rfl⟩)
                  | (go_at_call 134; refine (AC _).out.mono ?_; rintro e w1 ⟨rfl, hb⟩; have HI2 := Aside0.mk (HI.out.below hb); clear HI hb; have HI := HI2; clear HI2)
                  | (go_at_call 135; refine (EC _).out.mono ?_; rintro e w1 ⟨rfl, hb⟩; have HI2 := Aside0.mk (HI.out.below hb); clear HI hb; have HI := HI2; clear HI2)
                  | (go_at_call 136; refine (RC _).out.mono ?_; rintro e w1 ⟨rc, rfl, hrc, hb⟩; have hrc2 := hrc hy0; have HI2 := Aside0.mk (HI.out.below hb); clear HI hb hrc; have HI := HI2; clear HI2)
                  | (go_at_call 136; refine (RC0 _).out.mono ?_; rintro e w1 ⟨rfl, hb⟩; have HI2 := Aside0.mk (HI.out.below hb); clear HI hb; have HI := HI2; clear HI2))
                go_roundw
                case rel => exact ⟨0 + 1, _, by go_num, by omega, by omega, ⟨HI.out.mono (by rw [PS.out, HP.out, HF.out]; simp) (PL.out)⟩, fun h => by omega⟩
                case measure => simp [intOf]; omega
          · by_cases hx0 : 0 < x.size
            · obtain ⟨y, hy⟩ : ∃ y, y = ofL (prot true x.data.toList) := ⟨_, rfl⟩
              have hys : y.size ≤ 2001 := by rw [hy]; have := prot_size true x; omega
              have PC := fun W => Aside0.mk (prot_c bt x y hx0 (by omega) hy W)
              have HY : Aside0 (y.data.toList = prot true x.data.toList) := ⟨by rw [hy]; rfl⟩
              have hxe : x.toList.isEmpty = false := by rw [tl]; cases h : x.data.toList with | nil => rw [← size_l, h] at hx0; simp at hx0 | cons c t => rfl
              have hxe2 : ¬ x.toList = [] := fun e => by rw [e] at hxe; cases hxe
              clear hy
              by_cases hsp : special y.data.toList = true
              · have HF : Aside0 (fld true x.data.toList = 34 :: ((ofL (dup y.data.toList)).data.toList ++ [34])) := ⟨by rw [fld, ← HY.out, if_pos hsp]; rfl⟩
                have AC := fun W => Aside0.mk (containsAny y ⟨#[34, 44, 10]⟩ true hsp (by omega) (by decide) (by decide) W)
                obtain ⟨z, hz⟩ : ∃ z, z = ofL (dup y.data.toList) := ⟨_, rfl⟩
                have hzs : z.size ≤ 4002 := by rw [hz]; have := dup_size y; omega
                have EC := fun W => Aside0.mk (esc_c bt y z hz W (by omega))
                rw [← hz] at HF
                clear hsp hz
                go_wp2_with (first
                  | (go_at_call 131; refine (regular_c W0.heap.size _ h5 h6).mono ?_; rintro e w1 ⟨rfl, rfl⟩)
                  | (go_at_call 132; refine (itoa number hn0 hn1 _).mono ?_; rintro e w1 ⟨rfl, hb⟩; have HI2 := Aside0.mk (HI.out.below hb); clear HI hb; have HI := HI2; clear HI2)
                  | (go_at_call 130; (first | (with_reducible refine (wrRune 44 (by decide) 44 rfl HI.out (by omega)).mono ?_) | (with_reducible refine (wrRune 34 (by decide) 34 rfl HI.out (by omega)).mono ?_)); rintro e w1 ⟨v, rfl, hb⟩; have HI2 := Aside0.mk hb; clear HI hb; have HI := HI2; clear HI2; have q := HT.out.now HI.out; have q1 := q.t1; have q14 := q.t14; have q39 := q.t39; have q27 := q.s27; clear q)
                  | (go_at_call 126; (refine (wrString _ HI.out (by omega)).mono ?_); rintro e w1 ⟨v, rfl, hb⟩; have HI2 := Aside0.mk hb; clear HI hb; have HI := HI2; clear HI2; have q := HT.out.now HI.out; have q1 := q.t1; have q14 := q.t14; have q39 := q.t39; have q27 := q.s27; clear q)
                  | (go_at_call 133; refine (PC _).out.mono ?_; rintro e w1 ⟨rfl, rfl⟩)
                  | (go_at_call 134; refine (AC _).out.mono ?_; rintro e w1 ⟨rfl, hb⟩; have HI2 := Aside0.mk (HI.out.below hb); clear HI hb; have HI := HI2; clear HI2)
                  | (go_at_call 135; refine (EC _).out.mono ?_; rintro e w1 ⟨rfl, hb⟩; have HI2 := Aside0.mk (HI.out.below hb); clear HI hb; have HI := HI2; clear HI2)
                  | (go_at_call 136; refine (RC _).out.mono ?_; rintro e w1 ⟨rc, rfl, hrc, hb⟩; have hrc2 := hrc hy0; have HI2 := Aside0.mk (HI.out.below hb); clear HI hb hrc; have HI := HI2; clear HI2)
                  | (go_at_call 136; refine (RC0 _).out.mono ?_; rintro e w1 ⟨rfl, hb⟩; have HI2 := Aside0.mk (HI.out.below hb); clear HI hb; have HI := HI2; clear HI2))
                go_roundw
                case rel => exact ⟨0 + 1, _, by go_num, by omega, by omega, ⟨HI.out.mono (by rw [PS.out, HP.out, HF.out]; simp) (PL.out)⟩, fun h => by omega⟩
                case measure => simp [intOf]; omega
              · have HF : Aside0 (fld true x.data.toList = y.data.toList) := ⟨by rw [fld, ← HY.out, if_neg hsp]⟩
                have AC := fun W => Aside0.mk (containsAny y ⟨#[34, 44, 10]⟩ false (Bool.eq_false_iff.2 hsp) (by omega) (by decide) (by decide) W)
                clear hsp
                by_cases hy0 : 0 < y.size
                · have RC := fun W => Aside0.mk (rune_c y (by omega) W)
                  go_wp2_with (first
                    | (go_at_call 131; refine (regular_c W0.heap.size _ h5 h6).mono ?_; rintro e w1 ⟨rfl, rfl⟩)
                    | (go_at_call 132; refine (itoa number hn0 hn1 _).mono ?_; rintro e w1 ⟨rfl, hb⟩; have HI2 := Aside0.mk (HI.out.below hb); clear HI hb; have HI := HI2; clear HI2)
                    | (go_at_call 130; (first | (with_reducible refine (wrRune 44 (by decide) 44 rfl HI.out (by omega)).mono ?_) | (with_reducible refine (wrRune 34 (by decide) 34 rfl HI.out (by omega)).mono ?_)); rintro e w1 ⟨v, rfl, hb⟩; have HI2 := Aside0.mk hb; clear HI hb; have HI := HI2; clear HI2; have q := HT.out.now HI.out; have q1 := q.t1; have q14 := q.t14; have q39 := q.t39; have q27 := q.s27; clear q)
                    | (go_at_call 126; (refine (wrString _ HI.out (by omega)).mono ?_); rintro e w1 ⟨v, rfl, hb⟩; have HI2 := Aside0.mk hb; clear HI hb; have HI := HI2; clear HI2; have q := HT.out.now HI.out; have q1 := q.t1; have q14 := q.t14; have q39 := q.t39; have q27 := q.s27; clear q)
                    | (go_at_call 133; refine (PC _).out.mono ?_; rintro e w1 ⟨rfl, rfl⟩)
                    | (go_at_call 134; refine (AC _).out.mono ?_; rintro e w1 ⟨rfl, hb⟩; have HI2 := Aside0.mk (HI.out.below hb); clear HI hb; have HI := HI2; clear HI2)
                    | (go_at_call 135; refine (EC _).out.mono ?_; rintro e w1 ⟨rfl, hb⟩; have HI2 := Aside0.mk (HI.out.below hb); clear HI hb; have HI := HI2; clear HI2)
                    | (go_at_call 136; refine (RC _).out.mono ?_; rintro e w1 ⟨rc, rfl, hrc, hb⟩; have hrc2 := hrc hy0; have HI2 := Aside0.mk (HI.out.below hb); clear HI hb hrc; have HI := HI2; clear HI2)
                    | (go_at_call 136; refine (RC0 _).out.mono ?_; rintro e w1 ⟨rfl, hb⟩; have HI2 := Aside0.mk (HI.out.below hb); clear HI hb; have HI := HI2; clear HI2))
                  go_roundw
                  case rel => exact ⟨0 + 1, _, by go_num, by omega, by omega, ⟨HI.out.mono (by rw [PS.out, HP.out, HF.out]; simp) (PL.out)⟩, fun h => by omega⟩
                  case measure => simp [intOf]; omega
                · obtain rfl : y = ⟨#[]⟩ := by apply WideShapes.bytes_inj; exact List.eq_nil_of_length_eq_zero (by rw [size_l]; omega)
                  have RC0 := fun W => Aside0.mk (rune0 W)
                  go_wp2_with (first
                    | (go_at_call 131; refine (regular_c W0.heap.size _ h5 h6).mono ?_; rintro e w1 ⟨rfl, rfl⟩)
                    | (go_at_call 132; refine (itoa number hn0 hn1 _).mono ?_; rintro e w1 ⟨rfl, hb⟩; have HI2 := Aside0.mk (HI.out.below hb); clear HI hb; have HI := HI2; clear HI2)
                    | (go_at_call 130; (first | (with_reducible refine (wrRune 44 (by decide) 44 rfl HI.out (by omega)).mono ?_) | (with_reducible refine (wrRune 34 (by decide) 34 rfl HI.out (by omega)).mono ?_)); rintro e w1 ⟨v, rfl, hb⟩; have HI2 := Aside0.mk hb; clear HI hb; have HI := HI2; clear HI2; have q := HT.out.now HI.out; have q1 := q.t1; have q14 := q.t14; have q39 := q.t39; have q27 := q.s27; clear q)
                    | (go_at_call 126; (refine (wrString _ HI.out (by omega)).mono ?_); rintro e w1 ⟨v, rfl, hb⟩; have HI2 := Aside0.mk hb; clear HI hb; have HI := HI2; clear HI2; have q := HT.out.now HI.out; have q1 := q.t1; have q14 := q.t14; have q39 := q.t39; have q27 := q.s27; clear q)
                    | (go_at_call 133; refine (PC _).out.mono ?_; rintro e w1 ⟨rfl, rfl⟩)
                    | (go_at_call 134; refine (AC _).out.mono ?_; rintro e w1 ⟨rfl, hb⟩; have HI2 := Aside0.mk (HI.out.below hb); clear HI hb; have HI := HI2; clear HI2)
                    | (go_at_call 135; refine (EC _).out.mono ?_; rintro e w1 ⟨rfl, hb⟩; have HI2 := Aside0.mk (HI.out.below hb); clear HI hb; have HI := HI2; clear HI2)
                    | (go_at_call 136; refine (RC _).out.mono ?_; rintro e w1 ⟨rc, rfl, hrc, hb⟩; have hrc2 := hrc hy0; have HI2 := Aside0.mk (HI.out.below hb); clear HI hb hrc; have HI := HI2; clear HI2)
                    | (go_at_call 136; refine (RC0 _).out.mono ?_; rintro e w1 ⟨rfl, hb⟩; have HI2 := Aside0.mk (HI.out.below hb); clear HI hb; have HI := HI2; clear HI2))
                  go_roundw
                  case rel => exact ⟨0 + 1, _, by go_num, by omega, by omega, ⟨HI.out.mono (by rw [PS.out, HP.out, HF.out]; simp) (PL.out)⟩, fun h => by omega⟩
                  case measure => simp [intOf]; omega
            · obtain rfl : x = ⟨#[]⟩ := by apply WideShapes.bytes_inj; exact List.eq_nil_of_length_eq_zero (by rw [size_l]; omega)
              have HF : Aside0 (fld true (⟨#[]⟩ : ByteArray).data.toList = []) := ⟨by decide⟩
              have AC := fun W => Aside0.mk (containsAny ⟨#[]⟩ ⟨#[34, 44, 10]⟩ false (by decide) (by decide) (by decide) (by decide) W)
              have RC0 := fun W => Aside0.mk (rune0 W)
              go_wp2_with (first
                | (go_at_call 131; refine (regular_c W0.heap.size _ h5 h6).mono ?_; rintro e w1 ⟨rfl, rfl⟩)
                | (go_at_call 132; refine (itoa number hn0 hn1 _).mono ?_; rintro e w1 ⟨rfl, hb⟩; have HI2 := Aside0.mk (HI.out.below hb); clear HI hb; have HI := HI2; clear HI2)
                | (go_at_call 130; (first | (with_reducible refine (wrRune 44 (by decide) 44 rfl HI.out (by omega)).mono ?_) | (with_reducible refine (wrRune 34 (by decide) 34 rfl HI.out (by omega)).mono ?_)); rintro e w1 ⟨v, rfl, hb⟩; have HI2 := Aside0.mk hb; clear HI hb; have HI := HI2; clear HI2; have q := HT.out.now HI.out; have q1 := q.t1; have q14 := q.t14; have q39 := q.t39; have q27 := q.s27; clear q)
                | (go_at_call 126; (refine (wrString _ HI.out (by omega)).mono ?_); rintro e w1 ⟨v, rfl, hb⟩; have HI2 := Aside0.mk hb; clear HI hb; have HI := HI2; clear HI2; have q := HT.out.now HI.out; have q1 := q.t1; have q14 := q.t14; have q39 := q.t39; have q27 := q.s27; clear q)
                | (go_at_call 133; refine (PC _).out.mono ?_; rintro e w1 ⟨rfl, rfl⟩)
                | (go_at_call 134; refine (AC _).out.mono ?_; rintro e w1 ⟨rfl, hb⟩; have HI2 := Aside0.mk (HI.out.below hb); clear HI hb; have HI := HI2; clear HI2)
                | (go_at_call 135; refine (EC _).out.mono ?_; rintro e w1 ⟨rfl, hb⟩; have HI2 := Aside0.mk (HI.out.below hb); clear HI hb; have HI := HI2; clear HI2)
                | (go_at_call 136; refine (RC _).out.mono ?_; rintro e w1 ⟨rc, rfl, hrc, hb⟩; have hrc2 := hrc hy0; have HI2 := Aside0.mk (HI.out.below hb); clear HI hb hrc; have HI := HI2; clear HI2)
                | (go_at_call 136; refine (RC0 _).out.mono ?_; rintro e w1 ⟨rfl, hb⟩; have HI2 := Aside0.mk (HI.out.below hb); clear HI hb; have HI := HI2; clear HI2))
              go_roundw
              case rel => exact ⟨0 + 1, _, by go_num, by omega, by omega, ⟨HI.out.mono (by rw [PS.out, HP.out, HF.out]; simp) (PL.out)⟩, fun h => by omega⟩
              case measure => simp [intOf]; omega
        · have HP : Aside0 (pre true number 0 = (ofL (itoaL number)).data.toList ++ [44]) := ⟨rfl⟩
          cases p
          · obtain ⟨y, hy⟩ : ∃ y, y = x := ⟨_, rfl⟩
            have HY : Aside0 (y.data.toList = prot false x.data.toList) := ⟨by rw [hy]; have := congrArg (fun b : ByteArray => b.data.toList) (prot_off (p := false) (x := x) (.inl rfl)); exact this.symm⟩
            have hys : y.size ≤ 2001 := by rw [hy]; omega
            rw [← hy] at hcell
            clear hy
            by_cases hsp : special y.data.toList = true
            · have HF : Aside0 (fld false x.data.toList = 34 :: ((ofL (dup y.data.toList)).data.toList ++ [34])) := ⟨by rw [fld, ← HY.out, if_pos hsp]; rfl⟩
              have AC := fun W => Aside0.mk (containsAny y ⟨#[34, 44, 10]⟩ true hsp (by omega) (by decide) (by decide) W)
              obtain ⟨z, hz⟩ : ∃ z, z = ofL (dup y.data.toList) := ⟨_, rfl⟩
              have hzs : z.size ≤ 4002 := by rw [hz]; have := dup_size y; omega
              have EC := fun W => Aside0.mk (esc_c bt y z hz W (by omega))
              rw [← hz] at HF
              clear hsp hz
              go_wp2_with (first
                | (go_at_call 131; refine (regular_c W0.heap.size _ h5 h6).mono ?_; rintro e w1 ⟨rfl, rfl⟩)
                | (go_at_call 132; refine (itoa number hn0 hn1 _).mono ?_; rintro e w1 ⟨rfl, hb⟩; have HI2 := Aside0.mk (HI.out.below hb); clear HI hb; have HI := HI2; clear HI2)
                | (go_at_call 130; (first | (with_reducible refine (wrRune 44 (by decide) 44 rfl HI.out (by omega)).mono ?_) | (with_reducible refine (wrRune 34 (by decide) 34 rfl HI.out (by omega)).mono ?_)); rintro e w1 ⟨v, rfl, hb⟩; have HI2 := Aside0.mk hb; clear HI hb; have HI := HI2; clear HI2; have q := HT.out.now HI.out; have q1 := q.t1; have q14 := q.t14; have q39 := q.t39; have q27 := q.s27; clear q)
                | (go_at_call 126; (refine (wrString _ HI.out (by omega)).mono ?_); rintro e w1 ⟨v, rfl, hb⟩; have HI2 := Aside0.mk hb; clear HI hb; have HI := HI2; clear HI2; have q := HT.out.now HI.out; have q1 := q.t1; have q14 := q.t14; have q39 := q.t39; have q27 := q.s27; clear q)
                | (go_at_call 133; refine (PC _).out.mono ?_; rintro e w1 ⟨rfl, rfl⟩)
                | (go_at_call 134; refine (AC _).out.mono ?_; rintro e w1 ⟨rfl, hb⟩; have HI2 := Aside0.mk (HI.out.below hb); clear HI hb; have HI := HI2; clear HI2)
                | (go_at_call 135; refine (EC _).out.mono ?_; rintro e w1 ⟨rfl, hb⟩; have HI2 := Aside0.mk (HI.out.below hb); clear HI hb; have HI := HI2; clear HI2)
                | (go_at_call 136; refine (RC _).out.mono ?_; rintro e w1 ⟨rc, rfl, hrc, hb⟩; have hrc2 := hrc hy0; have HI2 := Aside0.mk (HI.out.below hb); clear HI hb hrc; have HI := HI2; clear HI2)
                | (go_at_call 136; refine (RC0 _).out.mono ?_; rintro e w1 ⟨rfl, hb⟩; have HI2 := Aside0.mk (HI.out.below hb); clear HI hb; have HI := HI2; clear HI2))
              go_roundw
              case rel => exact ⟨0 + 1, _, by go_num, by omega, by omega, ⟨HI.out.mono (by rw [PS.out, HP.out, HF.out]; simp) (PL.out)⟩, fun h => by omega⟩
              case measure => simp [intOf]; omega
            · have HF : Aside0 (fld false x.data.toList = y.data.toList) := ⟨by rw [fld, ← HY.out, if_neg hsp]⟩
              have AC := fun W => Aside0.mk (containsAny y ⟨#[34, 44, 10]⟩ false (Bool.eq_false_iff.2 hsp) (by omega) (by decide) (by decide) W)
              clear hsp
              by_cases hy0 : 0 < y.size
              · have RC := fun W => Aside0.mk (rune_c y (by omega) W)
                go_wp2_with (first
                  | (go_at_call 131; refine (regular_c W0.heap.size _ h5 h6).mono ?_; rintro e w1 ⟨rfl, rfl⟩)
                  | (go_at_call 132; refine (itoa number hn0 hn1 _).mono ?_; rintro e w1 ⟨rfl, hb⟩; have HI2 := Aside0.mk (HI.out.below hb); clear HI hb; have HI := HI2; clear HI2)
                  | (go_at_call 130; (first | (with_reducible refine (wrRune 44 (by decide) 44 rfl HI.out (by omega)).mono ?_) | (with_reducible refine (wrRune 34 (by decide) 34 rfl HI.out (by omega)).mono ?_)); rintro e w1 ⟨v, rfl, hb⟩; have HI2 := Aside0.mk hb; clear HI hb; have HI := HI2; clear HI2; have q := HT.out.now HI.out; have q1 := q.t1; have q14 := q.t14; have q39 := q.t39; have q27 := q.s27; clear q)
                  | (go_at_call 126; (refine (wrString _ HI.out (by omega)).mono ?_); rintro e w1 ⟨v, rfl, hb⟩; have HI2 := Aside0.mk hb; clear HI hb; have HI := HI2; clear HI2; have q := HT.out.now HI.out; have q1 := q.t1; have q14 := q.t14; have q39 := q.t39; have q27 := q.s27; clear q)
                  | (go_at_call 133; refine (PC _).out.mono ?_; rintro e w1 ⟨rfl, rfl⟩)
                  | (go_at_call 134; refine (AC _).out.mono ?_; rintro e w1 ⟨rfl, hb⟩; have HI2 := Aside0.mk (HI.out.below hb); clear HI hb; have HI := HI2; clear HI2)
                  | (go_at_call 135; refine (EC _).out.mono ?_; rintro e w1 ⟨rfl, hb⟩; have HI2 := Aside0.mk (HI.out.below hb); clear HI hb; have HI := HI2; clear HI2)
                  | (go_at_call 136; refine (RC _).out.mono ?_; rintro e w1 ⟨rc, rfl, hrc, hb⟩; have hrc2 := hrc hy0; have HI2 := Aside0.mk (HI.out.below hb); clear HI hb hrc; have HI := HI2; clear HI2)
                  | (go_at_call 136; refine (RC0 _).out.mono ?_; rintro e w1 ⟨rfl, hb⟩; have HI2 := Aside0.mk (HI.out.below hb); clear HI hb; have HI := HI2; clear HI2))
                go_roundw
                case rel => exact ⟨0 + 1, _, by go_num, by omega, by omega, ⟨HI.out.mono (by rw [PS.out, HP.out, HF.out]; simp) (PL.out)⟩, fun h => by omega⟩
                case measure => simp [intOf]; omega
              · obtain rfl : y = ⟨#[]⟩ := by apply WideShapes.bytes_inj; exact List.eq_nil_of_length_eq_zero (by rw [size_l]; omega)
                have RC0 := fun W => Aside0.mk (rune0 W)
                go_wp2_with (first
                  | (go_at_call 131; refine (regular_c W0.heap.size _ h5 h6).mono ?_; rintro e w1 ⟨rfl, rfl⟩)
                  | (go_at_call 132; refine (itoa number hn0 hn1 _).mono ?_; rintro e w1 ⟨rfl, hb⟩; have HI2 := Aside0.mk (HI.out.below hb); clear HI hb; have HI := HI2; clear HI2)
                  | (go_at_call 130; (first | (with_reducible refine (wrRune 44 (by decide) 44 rfl HI.out (by omega)).mono ?_) | (with_reducible refine (wrRune 34 (by decide) 34 rfl HI.out (by omega)).mono ?_)); rintro e w1 ⟨v, rfl, hb⟩; have HI2 := Aside0.mk hb; clear HI hb; have HI := HI2; clear HI2; have q := HT.out.now HI.out; have q1 := q.t1; have q14 := q.t14; have q39 := q.t39; have q27 := q.s27; clear q)
                  | (go_at_call 126; (refine (wrString _ HI.out (by omega)).mono ?_); rintro e w1 ⟨v, rfl, hb⟩; have HI2 := Aside0.mk hb; clear HI hb; have HI := HI2; clear HI2; have q := HT.out.now HI.out; have q1 := q.t1; have q14 := q.t14; have q39 := q.t39; have q27 := q.s27; clear q)
                  | (go_at_call 133; refine (PC _).out.mono ?_; rintro e w1 ⟨rfl, rfl⟩)
                  | (go_at_call 134; refine (AC _).out.mono ?_; rintro e w1 ⟨rfl, hb⟩; have HI2 := Aside0.mk (HI.out.below hb); clear HI hb; have HI := HI2; clear HI2)
                  | (go_at_call 135; refine (EC _).out.mono ?_; rintro e w1 ⟨rfl, hb⟩; have HI2 := Aside0.mk (HI.out.below hb); clear HI hb; have HI := HI2; clear HI2)
                  | (go_at_call 136; refine (RC _).out.mono ?_; rintro e w1 ⟨rc, rfl, hrc, hb⟩; have hrc2 := hrc hy0; have HI2 := Aside0.mk (HI.out.below hb); clear HI hb hrc; have HI := HI2; clear HI2)
                  | (go_at_call 136; refine (RC0 _).out.mono ?_; rintro e w1 ⟨rfl, hb⟩; have HI2 := Aside0.mk (HI.out.below hb); clear HI hb; have HI := HI2; clear HI2))
                go_roundw
                case rel => exact ⟨0 + 1, _, by go_num, by omega, by omega, ⟨HI.out.mono (by rw [PS.out, HP.out, HF.out]; simp) (PL.out)⟩, fun h => by omega⟩
                case measure => simp [intOf]; omega
          · by_cases hx0 : 0 < x.size
            · obtain ⟨y, hy⟩ : ∃ y, y = ofL (prot true x.data.toList) := ⟨_, rfl⟩
              have hys : y.size ≤ 2001 := by rw [hy]; have := prot_size true x; omega
              have PC := fun W => Aside0.mk (prot_c bt x y hx0 (by omega) hy W)
              have HY : Aside0 (y.data.toList = prot true x.data.toList) := ⟨by rw [hy]; rfl⟩
              have hxe : x.toList.isEmpty = false := by rw [tl]; cases h : x.data.toList with | nil => rw [← size_l, h] at hx0; simp at hx0 | cons c t => rfl
              have hxe2 : ¬ x.toList = [] := fun e => by rw [e] at hxe; cases hxe
              clear hy
              by_cases hsp : special y.data.toList = true
              · have HF : Aside0 (fld true x.data.toList = 34 :: ((ofL (dup y.data.toList)).data.toList ++ [34])) := ⟨by rw [fld, ← HY.out, if_pos hsp]; rfl⟩
                have AC := fun W => Aside0.mk (containsAny y ⟨#[34, 44, 10]⟩ true hsp (by omega) (by decide) (by decide) W)
                obtain ⟨z, hz⟩ : ∃ z, z = ofL (dup y.data.toList) := ⟨_, rfl⟩
                have hzs : z.size ≤ 4002 := by rw [hz]; have := dup_size y; omega
                have EC := fun W => Aside0.mk (esc_c bt y z hz W (by omega))
                rw [← hz] at HF
                clear hsp hz
                go_wp2_with (first
                  | (go_at_call 131; refine (regular_c W0.heap.size _ h5 h6).mono ?_; rintro e w1 ⟨rfl, rfl⟩)
                  | (go_at_call 132; refine (itoa number hn0 hn1 _).mono ?_; rintro e w1 ⟨rfl, hb⟩; have HI2 := Aside0.mk (HI.out.below hb); clear HI hb; have HI := HI2; clear HI2)
                  | (go_at_call 130; (first | (with_reducible refine (wrRune 44 (by decide) 44 rfl HI.out (by omega)).mono ?_) | (with_reducible refine (wrRune 34 (by decide) 34 rfl HI.out (by omega)).mono ?_)); rintro e w1 ⟨v, rfl, hb⟩; have HI2 := Aside0.mk hb; clear HI hb; have HI := HI2; clear HI2; have q := HT.out.now HI.out; have q1 := q.t1; have q14 := q.t14; have q39 := q.t39; have q27 := q.s27; clear q)
                  | (go_at_call 126; (refine (wrString _ HI.out (by omega)).mono ?_); rintro e w1 ⟨v, rfl, hb⟩; have HI2 := Aside0.mk hb; clear HI hb; have HI := HI2; clear HI2; have q := HT.out.now HI.out; have q1 := q.t1; have q14 := q.t14; have q39 := q.t39; have q27 := q.s27; clear q)
                  | (go_at_call 133; refine (PC _).out.mono ?_; rintro e w1 ⟨rfl, rfl⟩)
                  | (go_at_call 134; refine (AC _).out.mono ?_; rintro e w1 ⟨rfl, hb⟩; have HI2 := Aside0.mk (HI.out.below hb); clear HI hb; have HI := HI2; clear HI2)
                  | (go_at_call 135; refine (EC _).out.mono ?_; rintro e w1 ⟨rfl, hb⟩; have HI2 := Aside0.mk (HI.out.below hb); clear HI hb; have HI := HI2; clear HI2)
                  | (go_at_call 136; refine (RC _).out.mono ?_; rintro e w1 ⟨rc, rfl, hrc, hb⟩; have hrc2 := hrc hy0; have HI2 := Aside0.mk (HI.out.below hb); clear HI hb hrc; have HI := HI2; clear HI2)
                  | (go_at_call 136; refine (RC0 _).out.mono ?_; rintro e w1 ⟨rfl, hb⟩; have HI2 := Aside0.mk (HI.out.below hb); clear HI hb; have HI := HI2; clear HI2))
                go_roundw
                case rel => exact ⟨0 + 1, _, by go_num, by omega, by omega, ⟨HI.out.mono (by rw [PS.out, HP.out, HF.out]; simp) (PL.out)⟩, fun h => by omega⟩
                case measure => simp [intOf]; omega
              · have HF : Aside0 (fld true x.data.toList = y.data.toList) := ⟨by rw [fld, ← HY.out, if_neg hsp]⟩
                have AC := fun W => Aside0.mk (containsAny y ⟨#[34, 44, 10]⟩ false (Bool.eq_false_iff.2 hsp) (by omega) (by decide) (by decide) W)
                clear hsp
                by_cases hy0 : 0 < y.size
                · have RC := fun W => Aside0.mk (rune_c y (by omega) W)
                  go_wp2_with (first
                    | (go_at_call 131; refine (regular_c W0.heap.size _ h5 h6).mono ?_; rintro e w1 ⟨rfl, rfl⟩)
                    | (go_at_call 132; refine (itoa number hn0 hn1 _).mono ?_; rintro e w1 ⟨rfl, hb⟩; have HI2 := Aside0.mk (HI.out.below hb); clear HI hb; have HI := HI2; clear HI2)
                    | (go_at_call 130; (first | (with_reducible refine (wrRune 44 (by decide) 44 rfl HI.out (by omega)).mono ?_) | (with_reducible refine (wrRune 34 (by decide) 34 rfl HI.out (by omega)).mono ?_)); rintro e w1 ⟨v, rfl, hb⟩; have HI2 := Aside0.mk hb; clear HI hb; have HI := HI2; clear HI2; have q := HT.out.now HI.out; have q1 := q.t1; have q14 := q.t14; have q39 := q.t39; have q27 := q.s27; clear q)
                    | (go_at_call 126; (refine (wrString _ HI.out (by omega)).mono ?_); rintro e w1 ⟨v, rfl, hb⟩; have HI2 := Aside0.mk hb; clear HI hb; have HI := HI2; clear HI2; have q := HT.out.now HI.out; have q1 := q.t1; have q14 := q.t14; have q39 := q.t39; have q27 := q.s27; clear q)
                    | (go_at_call 133; refine (PC _).out.mono ?_; rintro e w1 ⟨rfl, rfl⟩)
                    | (go_at_call 134; refine (AC _).out.mono ?_; rintro e w1 ⟨rfl, hb⟩; have HI2 := Aside0.mk (HI.out.below hb); clear HI hb; have HI := HI2; clear HI2)
                    | (go_at_call 135; refine (EC _).out.mono ?_; rintro e w1 ⟨rfl, hb⟩; have HI2 := Aside0.mk (HI.out.below hb); clear HI hb; have HI := HI2; clear HI2)
                    | (go_at_call 136; refine (RC _).out.mono ?_; rintro e w1 ⟨rc, rfl, hrc, hb⟩; have hrc2 := hrc hy0; have HI2 := Aside0.mk (HI.out.below hb); clear HI hb hrc; have HI := HI2; clear HI2)
                    | (go_at_call 136; refine (RC0 _).out.mono ?_; rintro e w1 ⟨rfl, hb⟩; have HI2 := Aside0.mk (HI.out.below hb); clear HI hb; have HI := HI2; clear HI2))
                  go_roundw
                  case rel => exact ⟨0 + 1, _, by go_num, by omega, by omega, ⟨HI.out.mono (by rw [PS.out, HP.out, HF.out]; simp) (PL.out)⟩, fun h => by omega⟩
                  case measure => simp [intOf]; omega
                · obtain rfl : y = ⟨#[]⟩ := by apply WideShapes.bytes_inj; exact List.eq_nil_of_length_eq_zero (by rw [size_l]; omega)
                  have RC0 := fun W => Aside0.mk (rune0 W)
                  go_wp2_with (first
                    | (go_at_call 131; refine (regular_c W0.heap.size _ h5 h6).mono ?_; rintro e w1 ⟨rfl, rfl⟩)
                    | (go_at_call 132; refine (itoa number hn0 hn1 _).mono ?_; rintro e w1 ⟨rfl, hb⟩; have HI2 := Aside0.mk (HI.out.below hb); clear HI hb; have HI := HI2; clear HI2)
                    | (go_at_call 130; (first | (with_reducible refine (wrRune 44 (by decide) 44 rfl HI.out (by omega)).mono ?_) | (with_reducible refine (wrRune 34 (by decide) 34 rfl HI.out (by omega)).mono ?_)); rintro e w1 ⟨v, rfl, hb⟩; have HI2 := Aside0.mk hb; clear HI hb; have HI := HI2; clear HI2; have q := HT.out.now HI.out; have q1 := q.t1; have q14 := q.t14; have q39 := q.t39; have q27 := q.s27; clear q)
                    | (go_at_call 126; (refine (wrString _ HI.out (by omega)).mono ?_); rintro e w1 ⟨v, rfl, hb⟩; have HI2 := Aside0.mk hb; clear HI hb; have HI := HI2; clear HI2; have q := HT.out.now HI.out; have q1 := q.t1; have q14 := q.t14; have q39 := q.t39; have q27 := q.s27; clear q)
                    | (go_at_call 133; refine (PC _).out.mono ?_; rintro e w1 ⟨rfl, rfl⟩)
                    | (go_at_call 134; refine (AC _).out.mono ?_; rintro e w1 ⟨rfl, hb⟩; have HI2 := Aside0.mk (HI.out.below hb); clear HI hb; have HI := HI2; clear HI2)
                    | (go_at_call 135; refine (EC _).out.mono ?_; rintro e w1 ⟨rfl, hb⟩; have HI2 := Aside0.mk (HI.out.below hb); clear HI hb; have HI := HI2; clear HI2)
                    | (go_at_call 136; refine (RC _).out.mono ?_; rintro e w1 ⟨rc, rfl, hrc, hb⟩; have hrc2 := hrc hy0; have HI2 := Aside0.mk (HI.out.below hb); clear HI hb hrc; have HI := HI2; clear HI2)
                    | (go_at_call 136; refine (RC0 _).out.mono ?_; rintro e w1 ⟨rfl, hb⟩; have HI2 := Aside0.mk (HI.out.below hb); clear HI hb; have HI := HI2; clear HI2))
                  go_roundw
                  case rel => exact ⟨0 + 1, _, by go_num, by omega, by omega, ⟨HI.out.mono (by rw [PS.out, HP.out, HF.out]; simp) (PL.out)⟩, fun h => by omega⟩
                  case measure => simp [intOf]; omega
            · obtain rfl : x = ⟨#[]⟩ := by apply WideShapes.bytes_inj; exact List.eq_nil_of_length_eq_zero (by rw [size_l]; omega)
              have HF : Aside0 (fld true (⟨#[]⟩ : ByteArray).data.toList = []) := ⟨by decide⟩
              have AC := fun W => Aside0.mk (containsAny ⟨#[]⟩ ⟨#[34, 44, 10]⟩ false (by decide) (by decide) (by decide) (by decide) W)
              have RC0 := fun W => Aside0.mk (rune0 W)
              go_wp2_with (first
                | (go_at_call 131; refine (regular_c W0.heap.size _ h5 h6).mono ?_; rintro e w1 ⟨rfl, rfl⟩)
                | (go_at_call 132; refine (itoa number hn0 hn1 _).mono ?_; rintro e w1 ⟨rfl, hb⟩; have HI2 := Aside0.mk (HI.out.below hb); clear HI hb; have HI := HI2; clear HI2)
                | (go_at_call 130; (first | (with_reducible refine (wrRune 44 (by decide) 44 rfl HI.out (by omega)).mono ?_) | (with_reducible refine (wrRune 34 (by decide) 34 rfl HI.out (by omega)).mono ?_)); rintro e w1 ⟨v, rfl, hb⟩; have HI2 := Aside0.mk hb; clear HI hb; have HI := HI2; clear HI2; have q := HT.out.now HI.out; have q1 := q.t1; have q14 := q.t14; have q39 := q.t39; have q27 := q.s27; clear q)
                | (go_at_call 126; (refine (wrString _ HI.out (by omega)).mono ?_); rintro e w1 ⟨v, rfl, hb⟩; have HI2 := Aside0.mk hb; clear HI hb; have HI := HI2; clear HI2; have q := HT.out.now HI.out; have q1 := q.t1; have q14 := q.t14; have q39 := q.t39; have q27 := q.s27; clear q)
                | (go_at_call 133; refine (PC _).out.mono ?_; rintro e w1 ⟨rfl, rfl⟩)
                | (go_at_call 134; refine (AC _).out.mono ?_; rintro e w1 ⟨rfl, hb⟩; have HI2 := Aside0.mk (HI.out.below hb); clear HI hb; have HI := HI2; clear HI2)
                | (go_at_call 135; refine (EC _).out.mono ?_; rintro e w1 ⟨rfl, hb⟩; have HI2 := Aside0.mk (HI.out.below hb); clear HI hb; have HI := HI2; clear HI2)
                | (go_at_call 136; refine (RC _).out.mono ?_; rintro e w1 ⟨rc, rfl, hrc, hb⟩; have hrc2 := hrc hy0; have HI2 := Aside0.mk (HI.out.below hb); clear HI hb hrc; have HI := HI2; clear HI2)
                | (go_at_call 136; refine (RC0 _).out.mono ?_; rintro e w1 ⟨rfl, hb⟩; have HI2 := Aside0.mk (HI.out.below hb); clear HI hb; have HI := HI2; clear HI2))
              go_roundw
              case rel => exact ⟨0 + 1, _, by go_num, by omega, by omega, ⟨HI.out.mono (by rw [PS.out, HP.out, HF.out]; simp) (PL.out)⟩, fun h => by omega⟩
              case measure => simp [intOf]; omega
      · have HP : Aside0 (pre index number k = [44]) := ⟨by rw [pre, if_neg hk0]⟩
        have hk1 : ¬ (k : Int) = 0 := by omega
        have hk2 : 0 < k := by omega
        clear hh hk0
        cases p
        · obtain ⟨y, hy⟩ : ∃ y, y = x := ⟨_, rfl⟩
          have HY : Aside0 (y.data.toList = prot false x.data.toList) := ⟨by rw [hy]; have := congrArg (fun b : ByteArray => b.data.toList) (prot_off (p := false) (x := x) (.inl rfl)); exact this.symm⟩
          have hys : y.size ≤ 2001 := by rw [hy]; omega
          rw [← hy] at hcell
          clear hy
          by_cases hsp : special y.data.toList = true
          · have HF : Aside0 (fld false x.data.toList = 34 :: ((ofL (dup y.data.toList)).data.toList ++ [34])) := ⟨by rw [fld, ← HY.out, if_pos hsp]; rfl⟩
            have AC := fun W => Aside0.mk (containsAny y ⟨#[34, 44, 10]⟩ true hsp (by omega) (by decide) (by decide) W)
            obtain ⟨z, hz⟩ : ∃ z, z = ofL (dup y.data.toList) := ⟨_, rfl⟩
            have hzs : z.size ≤ 4002 := by rw [hz]; have := dup_size y; omega
            have EC := fun W => Aside0.mk (esc_c bt y z hz W (by omega))
            rw [← hz] at HF
            clear hsp hz
            go_wp2_with (first
              | (go_at_call 131; refine (regular_c W0.heap.size _ h5 h6).mono ?_; rintro e w1 ⟨rfl, rfl⟩)
              | (go_at_call 132; refine (itoa number hn0 hn1 _).mono ?_; rintro e w1 ⟨rfl, hb⟩; have HI2 := Aside0.mk (HI.out.below hb); clear HI hb; have HI := HI2; clear HI2)
              | (go_at_call 130; (first | (with_reducible refine (wrRune 44 (by decide) 44 rfl HI.out (by omega)).mono ?_) | (with_reducible refine (wrRune 34 (by decide) 34 rfl HI.out (by omega)).mono ?_)); rintro e w1 ⟨v, rfl, hb⟩; have HI2 := Aside0.mk hb; clear HI hb; have HI := HI2; clear HI2; have q := HT.out.now HI.out; have q1 := q.t1; have q14 := q.t14; have q39 := q.t39; have q27 := q.s27; clear q)
              | (go_at_call 126; (refine (wrString _ HI.out (by omega)).mono ?_); rintro e w1 ⟨v, rfl, hb⟩; have HI2 := Aside0.mk hb; clear HI hb; have HI := HI2; clear HI2; have q := HT.out.now HI.out; have q1 := q.t1; have q14 := q.t14; have q39 := q.t39; have q27 := q.s27; clear q)
              | (go_at_call 133; refine (PC _).out.mono ?_; rintro e w1 ⟨rfl, rfl⟩)
              | (go_at_call 134; refine (AC _).out.mono ?_; rintro e w1 ⟨rfl, hb⟩; have HI2 := Aside0.mk (HI.out.below hb); clear HI hb; have HI := HI2; clear HI2)
              | (go_at_call 135; refine (EC _).out.mono ?_; rintro e w1 ⟨rfl, hb⟩; have HI2 := Aside0.mk (HI.out.below hb); clear HI hb; have HI := HI2; clear HI2)
              | (go_at_call 136; refine (RC _).out.mono ?_; rintro e w1 ⟨rc, rfl, hrc, hb⟩; have hrc2 := hrc hy0; have HI2 := Aside0.mk (HI.out.below hb); clear HI hb hrc; have HI := HI2; clear HI2)
              | (go_at_call 136; refine (RC0 _).out.mono ?_; rintro e w1 ⟨rfl, hb⟩; have HI2 := Aside0.mk (HI.out.below hb); clear HI hb; have HI := HI2; clear HI2))
            go_roundw
            case rel => exact ⟨k + 1, _, by go_num, by omega, by omega, ⟨HI.out.mono (by rw [PS.out, HP.out, HF.out]; simp) (PL.out)⟩, fun h => by omega⟩
            case measure => simp [intOf]; omega
          · have HF : Aside0 (fld false x.data.toList = y.data.toList) := ⟨by rw [fld, ← HY.out, if_neg hsp]⟩
            have AC := fun W => Aside0.mk (containsAny y ⟨#[34, 44, 10]⟩ false (Bool.eq_false_iff.2 hsp) (by omega) (by decide) (by decide) W)
            clear hsp
            by_cases hy0 : 0 < y.size
            · have RC := fun W => Aside0.mk (rune_c y (by omega) W)
              go_wp2_with (first
                | (go_at_call 131; refine (regular_c W0.heap.size _ h5 h6).mono ?_; rintro e w1 ⟨rfl, rfl⟩)
                | (go_at_call 132; refine (itoa number hn0 hn1 _).mono ?_; rintro e w1 ⟨rfl, hb⟩; have HI2 := Aside0.mk (HI.out.below hb); clear HI hb; have HI := HI2; clear HI2)
                | (go_at_call 130; (first | (with_reducible refine (wrRune 44 (by decide) 44 rfl HI.out (by omega)).mono ?_) | (with_reducible refine (wrRune 34 (by decide) 34 rfl HI.out (by omega)).mono ?_)); rintro e w1 ⟨v, rfl, hb⟩; have HI2 := Aside0.mk hb; clear HI hb; have HI := HI2; clear HI2; have q := HT.out.now HI.out; have q1 := q.t1; have q14 := q.t14; have q39 := q.t39; have q27 := q.s27; clear q)
                | (go_at_call 126; (refine (wrString _ HI.out (by omega)).mono ?_); rintro e w1 ⟨v, rfl, hb⟩; have HI2 := Aside0.mk hb; clear HI hb; have HI := HI2; clear HI2; have q := HT.out.now HI.out; have q1 := q.t1; have q14 := q.t14; have q39 := q.t39; have q27 := q.s27; clear q)
                | (go_at_call 133; refine (PC _).out.mono ?_; rintro e w1 ⟨rfl, rfl⟩)
                | (go_at_call 134; refine (AC _).out.mono ?_; rintro e w1 ⟨rfl, hb⟩; have HI2 := Aside0.mk (HI.out.below hb); clear HI hb; have HI := HI2; clear HI2)
                | (go_at_call 135; refine (EC _).out.mono ?_; rintro e w1 ⟨rfl, hb⟩; have HI2 := Aside0.mk (HI.out.below hb); clear HI hb; have HI := HI2; clear HI2)
                | (go_at_call 136; refine (RC _).out.mono ?_; rintro e w1 ⟨rc, rfl, hrc, hb⟩; have hrc2 := hrc hy0; have HI2 := Aside0.mk (HI.out.below hb); clear HI hb hrc; have HI := HI2; clear HI2)
                | (go_at_call 136; refine (RC0 _).out.mono ?_; rintro e w1 ⟨rfl, hb⟩; have HI2 := Aside0.mk (HI.out.below hb); clear HI hb; have HI := HI2; clear HI2))
              go_roundw
              case rel => exact ⟨k + 1, _, by go_num, by omega, by omega, ⟨HI.out.mono (by rw [PS.out, HP.out, HF.out]; simp) (PL.out)⟩, fun h => by omega⟩
              case measure => simp [intOf]; omega
            · obtain rfl : y = ⟨#[]⟩ := by apply WideShapes.bytes_inj; exact List.eq_nil_of_length_eq_zero (by rw [size_l]; omega)
              have RC0 := fun W => Aside0.mk (rune0 W)
              go_wp2_with (first
                | (go_at_call 131; refine (regular_c W0.heap.size _ h5 h6).mono ?_; rintro e w1 ⟨rfl, rfl⟩)
                | (go_at_call 132; refine (itoa number hn0 hn1 _).mono ?_; rintro e w1 ⟨rfl, hb⟩; have HI2 := Aside0.mk (HI.out.below hb); clear HI hb; have HI := HI2; clear HI2)
                | (go_at_call 130; (first | (with_reducible refine (wrRune 44 (by decide) 44 rfl HI.out (by omega)).mono ?_) | (with_reducible refine (wrRune 34 (by decide) 34 rfl HI.out (by omega)).mono ?_)); rintro e w1 ⟨v, rfl, hb⟩; have HI2 := Aside0.mk hb; clear HI hb; have HI := HI2; clear HI2; have q := HT.out.now HI.out; have q1 := q.t1; have q14 := q.t14; have q39 := q.t39; have q27 := q.s27; clear q)
                | (go_at_call 126; (refine (wrString _ HI.out (by omega)).mono ?_); rintro e w1 ⟨v, rfl, hb⟩; have HI2 := Aside0.mk hb; clear HI hb; have HI := HI2; clear HI2; have q := HT.out.now HI.out; have q1 := q.t1; have q14 := q.t14; have q39 := q.t39; have q27 := q.s27; clear q)
                | (go_at_call 133; refine (PC _).out.mono ?_; rintro e w1 ⟨rfl, rfl⟩)
                | (go_at_call 134; refine (AC _).out.mono ?_; rintro e w1 ⟨rfl, hb⟩; have HI2 := Aside0.mk (HI.out.below hb); clear HI hb; have HI := HI2; clear HI2)
                | (go_at_call 135; refine (EC _).out.mono ?_; rintro e w1 ⟨rfl, hb⟩; have HI2 := Aside0.mk (HI.out.below hb); clear HI hb; have HI := HI2; clear HI2)
                | (go_at_call 136; refine (RC _).out.mono ?_; rintro e w1 ⟨rc, rfl, hrc, hb⟩; have hrc2 := hrc hy0; have HI2 := Aside0.mk (HI.out.below hb); clear HI hb hrc; have HI := HI2; clear HI2)
                | (go_at_call 136; refine (RC0 _).out.mono ?_; rintro e w1 ⟨rfl, hb⟩; have HI2 := Aside0.mk (HI.out.below hb); clear HI hb; have HI := HI2; clear HI2))
              go_roundw
              case rel => exact ⟨k + 1, _, by go_num, by omega, by omega, ⟨HI.out.mono (by rw [PS.out, HP.out, HF.out]; simp) (PL.out)⟩, fun h => by omega⟩
              case measure => simp [intOf]; omega
        · by_cases hx0 : 0 < x.size
          · obtain ⟨y, hy⟩ : ∃ y, y = ofL (prot true x.data.toList) := ⟨_, rfl⟩
            have hys : y.size ≤ 2001 := by rw [hy]; have := prot_size true x; omega
            have PC := fun W => Aside0.mk (prot_c bt x y hx0 (by omega) hy W)
            have HY : Aside0 (y.data.toList = prot true x.data.toList) := ⟨by rw [hy]; rfl⟩
            have hxe : x.toList.isEmpty = false := by rw [tl]; cases h : x.data.toList with | nil => rw [← size_l, h] at hx0; simp at hx0 | cons c t => rfl
            have hxe2 : ¬ x.toList = [] := fun e => by rw [e] at hxe; cases hxe
            clear hy
            by_cases hsp : special y.data.toList = true
            · have HF : Aside0 (fld true x.data.toList = 34 :: ((ofL (dup y.data.toList)).data.toList ++ [34])) := ⟨by rw [fld, ← HY.out, if_pos hsp]; rfl⟩
              have AC := fun W => Aside0.mk (containsAny y ⟨#[34, 44, 10]⟩ true hsp (by omega) (by decide) (by decide) W)
              obtain ⟨z, hz⟩ : ∃ z, z = ofL (dup y.data.toList) := ⟨_, rfl⟩
              have hzs : z.size ≤ 4002 := by rw [hz]; have := dup_size y; omega
              have EC := fun W => Aside0.mk (esc_c bt y z hz W (by omega))
              rw [← hz] at HF
              clear hsp hz
              go_wp2_with (first
                | (go_at_call 131; refine (regular_c W0.heap.size _ h5 h6).mono ?_; rintro e w1 ⟨rfl, rfl⟩)
                | (go_at_call 132; refine (itoa number hn0 hn1 _).mono ?_; rintro e w1 ⟨rfl, hb⟩; have HI2 := Aside0.mk (HI.out.below hb); clear HI hb; have HI := HI2; clear HI2)
                | (go_at_call 130; (first | (with_reducible refine (wrRune 44 (by decide) 44 rfl HI.out (by omega)).mono ?_) | (with_reducible refine (wrRune 34 (by decide) 34 rfl HI.out (by omega)).mono ?_)); rintro e w1 ⟨v, rfl, hb⟩; have HI2 := Aside0.mk hb; clear HI hb; have HI := HI2; clear HI2; have q := HT.out.now HI.out; have q1 := q.t1; have q14 := q.t14; have q39 := q.t39; have q27 := q.s27; clear q)
                | (go_at_call 126; (refine (wrString _ HI.out (by omega)).mono ?_); rintro e w1 ⟨v, rfl, hb⟩; have HI2 := Aside0.mk hb; clear HI hb; have HI := HI2; clear HI2; have q := HT.out.now HI.out; have q1 := q.t1; have q14 := q.t14; have q39 := q.t39; have q27 := q.s27; clear q)
                | (go_at_call 133; refine (PC _).out.mono ?_; rintro e w1 ⟨rfl, rfl⟩)
                | (go_at_call 134; refine (AC _).out.mono ?_; rintro e w1 ⟨rfl, hb⟩; have HI2 := Aside0.mk (HI.out.below hb); clear HI hb; have HI := HI2; clear HI2)
                | (go_at_call 135; refine (EC _).out.mono ?_; rintro e w1 ⟨rfl, hb⟩; have HI2 := Aside0.mk (HI.out.below hb); clear HI hb; have HI := HI2; clear HI2)
                | (go_at_call 136; refine (RC _).out.mono ?_; rintro e w1 ⟨rc, rfl, hrc, hb⟩; have hrc2 := hrc hy0; have HI2 := Aside0.mk (HI.out.below hb); clear HI hb hrc; have HI := HI2; clear HI2)
                | (go_at_call 136; refine (RC0 _).out.mono ?_; rintro e w1 ⟨rfl, hb⟩; have HI2 := Aside0.mk (HI.out.below hb); clear HI hb; have HI := HI2; clear HI2))
              go_roundw
              case rel => exact ⟨k + 1, _, by go_num, by omega, by omega, ⟨HI.out.mono (by rw [PS.out, HP.out, HF.out]; simp) (PL.out)⟩, fun h => by omega⟩
              case measure => simp [intOf]; omega
            · have HF : Aside0 (fld true x.data.toList = y.data.toList) := ⟨by rw [fld, ← HY.out, if_neg hsp]⟩
              have AC := fun W => Aside0.mk (containsAny y ⟨#[34, 44, 10]⟩ false (Bool.eq_false_iff.2 hsp) (by omega) (by decide) (by decide) W)
              clear hsp
              by_cases hy0 : 0 < y.size
              · have RC := fun W => Aside0.mk (rune_c y (by omega) W)
                go_wp2_with (first
                  | (go_at_call 131; refine (regular_c W0.heap.size _ h5 h6).mono ?_; rintro e w1 ⟨rfl, rfl⟩)
                  | (go_at_call 132; refine (itoa number hn0 hn1 _).mono ?_; rintro e w1 ⟨rfl, hb⟩; have HI2 := Aside0.mk (HI.out.below hb); clear HI hb; have HI := HI2; clear HI2)
                  | (go_at_call 130; (first | (with_reducible refine (wrRune 44 (by decide) 44 rfl HI.out (by omega)).mono ?_) | (with_reducible refine (wrRune 34 (by decide) 34 rfl HI.out (by omega)).mono ?_)); rintro e w1 ⟨v, rfl, hb⟩; have HI2 := Aside0.mk hb; clear HI hb; have HI := HI2; clear HI2; have q := HT.out.now HI.out; have q1 := q.t1; have q14 := q.t14; have q39 := q.t39; have q27 := q.s27; clear q)
                  | (go_at_call 126; (refine (wrString _ HI.out (by omega)).mono ?_); rintro e w1 ⟨v, rfl, hb⟩; have HI2 := Aside0.mk hb; clear HI hb; have HI := HI2; clear HI2; have q := HT.out.now HI.out; have q1 := q.t1; have q14 := q.t14; have q39 := q.t39; have q27 := q.s27; clear q)
                  | (go_at_call 133; refine (PC _).out.mono ?_; rintro e w1 ⟨rfl, rfl⟩)
                  | (go_at_call 134; refine (AC _).out.mono ?_; rintro e w1 ⟨rfl, hb⟩; have HI2 := Aside0.mk (HI.out.below hb); clear HI hb; have HI := HI2; clear HI2)
                  | (go_at_call 135; refine (EC _).out.mono ?_; rintro e w1 ⟨rfl, hb⟩; have HI2 := Aside0.mk (HI.out.below hb); clear HI hb; have HI := HI2; clear HI2)
                  | (go_at_call 136; refine (RC _).out.mono ?_; rintro e w1 ⟨rc, rfl, hrc, hb⟩; have hrc2 := hrc hy0; have HI2 := Aside0.mk (HI.out.below hb); clear HI hb hrc; have HI := HI2; clear HI2)
                  | (go_at_call 136; refine (RC0 _).out.mono ?_; rintro e w1 ⟨rfl, hb⟩; have HI2 := Aside0.mk (HI.out.below hb); clear HI hb; have HI := HI2; clear HI2))
                go_roundw
                case rel => exact ⟨k + 1, _, by go_num, by omega, by omega, ⟨HI.out.mono (by rw [PS.out, HP.out, HF.out]; simp) (PL.out)⟩, fun h => by omega⟩
                case measure => simp [intOf]; omega
              · obtain rfl : y = ⟨#[]⟩ := by apply WideShapes.bytes_inj; exact List.eq_nil_of_length_eq_zero (by rw [size_l]; omega)
                have RC0 := fun W => Aside0.mk (rune0 W)
                go_wp2_with (first
                  | (go_at_call 131; refine (regular_c W0.heap.size _ h5 h6).mono ?_; rintro e w1 ⟨rfl, rfl⟩)
                  | (go_at_call 132; refine (itoa number hn0 hn1 _).mono ?_; rintro e w1 ⟨rfl, hb⟩; have HI2 := Aside0.mk (HI.out.below hb); clear HI hb; have HI := HI2; clear HI2)
                  | (go_at_call 130; (first | (with_reducible refine (wrRune 44 (by decide) 44 rfl HI.out (by omega)).mono ?_) | (with_reducible refine (wrRune 34 (by decide) 34 rfl HI.out (by omega)).mono ?_)); rintro e w1 ⟨v, rfl, hb⟩; have HI2 := Aside0.mk hb; clear HI hb; have HI := HI2; clear HI2; have q := HT.out.now HI.out; have q1 := q.t1; have q14 := q.t14; have q39 := q.t39; have q27 := q.s27; clear q)
                  | (go_at_call 126; (refine (wrString _ HI.out (by omega)).mono ?_); rintro e w1 ⟨v, rfl, hb⟩; have HI2 := Aside0.mk hb; clear HI hb; have HI := HI2; clear HI2; have q := HT.out.now HI.out; have q1 := q.t1; have q14 := q.t14; have q39 := q.t39; have q27 := q.s27; clear q)
                  | (go_at_call 133; refine (PC _).out.mono ?_; rintro e w1 ⟨rfl, rfl⟩)
                  | (go_at_call 134; refine (AC _).out.mono ?_; rintro e w1 ⟨rfl, hb⟩; have HI2 := Aside0.mk (HI.out.below hb); clear HI hb; have HI := HI2; clear HI2)
                  | (go_at_call 135; refine (EC _).out.mono ?_; rintro e w1 ⟨rfl, hb⟩; have HI2 := Aside0.mk (HI.out.below hb); clear HI hb; have HI := HI2; clear HI2)
                  | (go_at_call 136; refine (RC _).out.mono ?_; rintro e w1 ⟨rc, rfl, hrc, hb⟩; have hrc2 := hrc hy0; have HI2 := Aside0.mk (HI.out.below hb); clear HI hb hrc; have HI := HI2; clear HI2)
                  | (go_at_call 136; refine (RC0 _).out.mono ?_; rintro e w1 ⟨rfl, hb⟩; have HI2 := Aside0.mk (HI.out.below hb); clear HI hb; have HI := HI2; clear HI2))
                go_roundw
                case rel => exact ⟨k + 1, _, by go_num, by omega, by omega, ⟨HI.out.mono (by rw [PS.out, HP.out, HF.out]; simp) (PL.out)⟩, fun h => by omega⟩
                case measure => simp [intOf]; omega
          · obtain rfl : x = ⟨#[]⟩ := by apply WideShapes.bytes_inj; exact List.eq_nil_of_length_eq_zero (by rw [size_l]; omega)
            have HF : Aside0 (fld true (⟨#[]⟩ : ByteArray).data.toList = []) := ⟨by decide⟩
            have AC := fun W => Aside0.mk (containsAny ⟨#[]⟩ ⟨#[34, 44, 10]⟩ false (by decide) (by decide) (by decide) (by decide) W)
            have RC0 := fun W => Aside0.mk (rune0 W)
            go_wp2_with (first
              | (go_at_call 131; refine (regular_c W0.heap.size _ h5 h6).mono ?_; rintro e w1 ⟨rfl, rfl⟩)
              | (go_at_call 132; refine (itoa number hn0 hn1 _).mono ?_; rintro e w1 ⟨rfl, hb⟩; have HI2 := Aside0.mk (HI.out.below hb); clear HI hb; have HI := HI2; clear HI2)
              | (go_at_call 130; (first | (with_reducible refine (wrRune 44 (by decide) 44 rfl HI.out (by omega)).mono ?_) | (with_reducible refine (wrRune 34 (by decide) 34 rfl HI.out (by omega)).mono ?_)); rintro e w1 ⟨v, rfl, hb⟩; have HI2 := Aside0.mk hb; clear HI hb; have HI := HI2; clear HI2; have q := HT.out.now HI.out; have q1 := q.t1; have q14 := q.t14; have q39 := q.t39; have q27 := q.s27; clear q)
              | (go_at_call 126; (refine (wrString _ HI.out (by omega)).mono ?_); rintro e w1 ⟨v, rfl, hb⟩; have HI2 := Aside0.mk hb; clear HI hb; have HI := HI2; clear HI2; have q := HT.out.now HI.out; have q1 := q.t1; have q14 := q.t14; have q39 := q.t39; have q27 := q.s27; clear q)
              | (go_at_call 133; refine (PC _).out.mono ?_; rintro e w1 ⟨rfl, rfl⟩)
              | (go_at_call 134; refine (AC _).out.mono ?_; rintro e w1 ⟨rfl, hb⟩; have HI2 := Aside0.mk (HI.out.below hb); clear HI hb; have HI := HI2; clear HI2)
              | (go_at_call 135; refine (EC _).out.mono ?_; rintro e w1 ⟨rfl, hb⟩; have HI2 := Aside0.mk (HI.out.below hb); clear HI hb; have HI := HI2; clear HI2)
              | (go_at_call 136; refine (RC _).out.mono ?_; rintro e w1 ⟨rc, rfl, hrc, hb⟩; have hrc2 := hrc hy0; have HI2 := Aside0.mk (HI.out.below hb); clear HI hb hrc; have HI := HI2; clear HI2)
              | (go_at_call 136; refine (RC0 _).out.mono ?_; rintro e w1 ⟨rfl, hb⟩; have HI2 := Aside0.mk (HI.out.below hb); clear HI hb; have HI := HI2; clear HI2))
            go_roundw
            case rel => exact ⟨k + 1, _, by go_num, by omega, by omega, ⟨HI.out.mono (by rw [PS.out, HP.out, HF.out]; simp) (PL.out)⟩, fun h => by omega⟩
            case measure => simp [intOf]; omega
    · obtain rfl : k = cells.length := by omega
      obtain ⟨C, rfl⟩ := Int.eq_ofNat_of_zero_le hc0
      have hC : C ≤ 300 := by omega
      have hm2 : m ≤ 20000000 := by omega
      have hL : cells.length ≤ 2001 := hl
      clear hh hm hk hc0 hc1
      obtain ⟨wo, hwo⟩ : ∃ wo, wo = wr := ⟨_, rfl⟩
      subst hwo
      obtain ⟨L, hLe⟩ : ∃ L, L = cells.length := ⟨_, rfl⟩
      go_wp2
      go_loopw [10] (fun c wi => ∃ (j n : Nat), Value.int .i64 (j : Int) = c ∧ cells.length ≤ j ∧ (j ≤ cells.length ∨ j ≤ C) ∧ n ≤ 20000000 + (j - cells.length) ∧ Aside0 (BS B W0 (CsvP.part p index number cells cells.length ++ List.replicate (j - cells.length) 44) n wi)) (fun c _ => C - (intOf c).toNat)
      case atStart => exact ⟨cells.length, m, rfl, by omega, by omega, by omega, ⟨by simpa using HI.out⟩⟩
      case round =>
        obtain ⟨j, n, rfl, hj, hj2, hn, HI⟩ := hrel
        have q := HT.out.now HI.out
        have q14 := q.t14
        clear q
        by_cases hjc : j < C
        · go_wp2_with (go_at_call 130; ((with_reducible refine (wrRune 44 (by decide) 44 rfl HI.out (by omega)).mono ?_)); rintro e w1 ⟨v, rfl, hb⟩; have HI2 := Aside0.mk hb; clear HI hb; have HI := HI2; clear HI2)
          go_roundw
          case rel => exact ⟨j + 1, n + 1, by go_num, by omega, by omega, by omega, ⟨HI.out.mono (by rw [show j + 1 - cells.length = (j - cells.length) + 1 by omega, List.replicate_succ']; simp) (by have := HI.out.len; simp at this ⊢; omega)⟩⟩
          case measure => simp [intOf]; omega
        · have HE : Aside0 (CsvP.row p index number cells (C : Int) = CsvP.part p index number cells cells.length ++ List.replicate (j - cells.length) 44) := ⟨by
            rw [row, Int.toNat_natCast]
            congr 2
            omega⟩
          go_wp2
          have FIN := HI.out
          rw [← HE.out] at FIN
          go_end0
          exact ⟨rfl, _, FIN⟩
end Go.Proofs.Ytjoagjkmghmnnaa.CsvW
