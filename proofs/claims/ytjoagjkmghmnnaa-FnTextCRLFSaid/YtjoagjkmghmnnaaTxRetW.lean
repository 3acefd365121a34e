/-
  Proved: what spec.TxReturned returns on ASCII texts: the walk. Conditions: ASCII, at most 1000 bytes.
-/
import Derived.Test.YtjoagjkmghmnnaaTxRet
import Derived.BigCall
import Derived.Deep.LoopGhost
namespace Go.Proofs.Ytjoagjkmghmnnaa.TxRetW
open Go.RowKit Go.Proofs.YtjoagjkmghmnnaaW.PrintWords Go.Proofs.YtjoagjkmghmnnaaW.PrintLast Go.Proofs.Ytjoagjkmghmnnaa.Common Go.Proofs.Ytjoagjkmghmnnaa.Crlf Go.Proofs.Ytjoagjkmghmnnaa.TxRet
set_option linter.unusedVariables false
set_option linter.unusedSimpArgs false

theorem info32 : (Try.prog.info? 21).map (fun i => (i.zero, i.size, i.bytes)) = some (some (.int .i32 0), 1, 4) := by kernel_rfl
set_option maxHeartbeats 4000000 in
set_option maxRecDepth 1000000 in
theorem tx_returned (s : ByteArray) (w : World) (hs : s.size ≤ 1000) (ha : ∀ c ∈ s.data.toList, c.toNat < 128) :
    Calls Try.prog 37 #[.string s] w fun e w' => e = .returned (.string (ofL (ret s.data.toList [] [] 0))) ∧ Below w.heap.size w w' := by
  have HA := Aside0.mk ha
  clear ha
  go_enter Try.func37, Try.ntmps37
  go_wp2
  go_loopw [3, 4, 5, 7] (fun vo vl at_ _ wr => ∃ (uo ul : Value) (pos j : Nat) (o l : List UInt8), uo = vo ∧ ul = vl ∧ at_ = .int .i64 (j : Int) ∧ Aside0 (St w s uo ul o l pos wr) ∧ pos ≤ s.size ∧ j ≤ l.length ∧ o.length + l.length ≤ pos ∧ Aside0 (ret (s.data.toList.drop pos) o l j = ret s.data.toList [] [] 0) ∧ Aside0 (∀ c ∈ o ++ l, c.toNat < 128)) (fun _ _ _ _ wr => s.size - wr.iterPos w.heap.size)
  case atStart =>
    refine ⟨_, _, 0, 0, [], [], rfl, rfl, rfl, ⟨⟨own_nil _ _ _ _, own_nil _ _ _ _, .inl rfl, ?_, (Below.refl _ w).alloc (Nat.le_refl _) _⟩⟩, by omega, by simp, by simp, ⟨by simp⟩, ⟨by simp⟩⟩
    simpa using World.iter_heap w s 0
  case round =>
    obtain ⟨vo, vl, pos, j, o, l, rfl, rfl, rfl, HS, hp, hj, hol, HR, HC⟩ := hrel
    by_cases hlt : pos < s.size
    · have hlt' : pos < s.data.toList.length := by rw [size_l]; exact hlt
      obtain ⟨c, hc⟩ : ∃ c, c = s.data.toList[pos] := ⟨_, rfl⟩
      have hmem : c ∈ s.data.toList := by rw [hc]; exact List.getElem_mem _
      have hcl : c.toNat < 128 := HA.out c hmem
      have hd : s.data.toList.drop pos = c :: s.data.toList.drop (pos + 1) := by rw [hc]; exact List.drop_eq_getElem_cons hlt'
      have hsc : s[pos]'hlt = c := by rw [hc]; simp; rfl
      have hdec : Utf8.decode s pos = (c.toNat, 1) := by rw [decode_ascii s pos hlt (by rw [hsc]; exact hcl), hsc]
      have hnx : ∀ ty, (Instr.next (.pointer (some ⟨w.heap.size, 0, none⟩)) true ty).run Try.prog wr = .ok (.tuple #[.bool true, .int .i64 pos, .int .i32 (c.toNat : Nat)]) (wr.iterAt w.heap.size s (pos + 1)) := by
        intro ty
        have := Lib.run_next_any_at (P := Try.prog) wr w.heap.size s pos ty HS.out.it hlt
        rw [hdec] at this
        exact this
      have HS2 := Aside0.mk (HS.out.next (pos + 1))
      have HME := Aside0.mk (show s.size - (pos + 1) < s.size - wr.iterPos w.heap.size by simp only [World.iterPos, HS.out.it]; omega)
      obtain ⟨wn, hwn⟩ : ∃ wn, wn = wr.iterAt w.heap.size s (pos + 1) := ⟨_, rfl⟩
      rw [← hwn] at hnx HS2
      have HR2 := Aside0.mk HR.out
      rw [hd] at HR2
      have HC2 := Aside0.mk (show ∀ x ∈ o ++ l ++ [c], x.toNat < 128 from fun x hx => by
        rcases List.mem_append.1 hx with h | h
        · exact HC.out x h
        · simp at h; rw [h]; exact hcl)
      obtain ⟨r, hr⟩ : ∃ r, r = c.toNat := ⟨_, rfl⟩
      rw [← hr] at hnx
      have HRC := Aside0.mk hr
      clear hr hwn hsc hdec hd hc HS HR HC
      obtain ⟨A, cp, rfl, hrd⟩ := own_reads (by have := HS2.out.rl; exact this)
      have HRD := Aside0.mk hrd
      clear hrd
      have hlen1 : (ofBs o).length = o.length := ofBs_len o
      have hlen2 : (ofBs l).length = l.length := ofBs_len l
      have HL1 := Aside0.mk hlen1
      have HL2 := Aside0.mk hlen2
      clear hlen1 hlen2
      by_cases h10 : r = 10
      · subst h10
        have hc10 : c = 10 := by have := HRC.out; exact UInt8.toNat_inj.1 (by rw [← this]; rfl)
        subst hc10
        go_wp2_with (first
          | ((with_reducible refine gate_builtin (b := .append) (xs := #[.tmp 22, .tmp 23]) rfl ?_); at_builtin; refine print_append_row (w0 := w) w.heap.size rfl (.tmp 22) (.tmp 23) 131 21 .i32 4 rfl Try.underlying131 info32 (by decide) vo (ofBs o) (ofBs l) A (ofBs l).length cp rfl rfl HS2.out.ro HRD.out HS2.out.bl HS2.out.bl.size (by rw [HL1.out, HL2.out]; omega) ?_; intro v1 w1 ho hb hg hat; have HO1 := Aside0.mk ho; have HB1 := Aside0.mk hb; have HG1 := Aside0.mk hg; have HT1 := Aside0.mk hat; clear ho hb hg hat)
          | ((with_reducible refine gate_builtin (b := .append) (xs := #[.tmp 24, .tmp 25]) rfl ?_); at_builtin; refine print_append_num (w0 := w) w.heap.size rfl (.tmp 24) (.tmp 25) 131 21 .i32 4 rfl Try.underlying131 info32 (by decide) v1 (ofBs o ++ ofBs l) 10 rfl rfl HO1.out HB1.out HB1.out.size (by rw [List.length_append, HL1.out, HL2.out]; omega) ?_; intro v2 w2 ho hb hg hat; have HO2 := Aside0.mk ho; have HB2 := Aside0.mk hb; have HG2 := Aside0.mk hg; clear ho hb hg hat))
        have N : Aside0 (St w s v2 (.slice none 0 0) (o ++ l ++ [10]) [] (pos + 1) w2) := ⟨HS2.out.fresh (o1 := o ++ l ++ [10]) (by
          have := HO2.out
          rw [ofBs_app, ofBs_app]
          exact this) HB2.out (grown_then HG1.out HG2.out HT1.out)⟩
        go_roundw
        case rel => exact ⟨v2, _, pos + 1, 0, o ++ l ++ [10], [], rfl, rfl, rfl, N, by omega, by simp, by simp; omega, ⟨by rw [← HR2.out, ret, if_pos rfl]⟩, ⟨by simpa using HC2.out⟩⟩
        case measure => rw [iterPos_of N.out.it]; exact HME.out
      · by_cases h13 : r = 13
        · subst h13
          have hc13 : c = 13 := by have := HRC.out; exact UInt8.toNat_inj.1 (by rw [← this]; rfl)
          subst hc13
          clear h10
          go_wp2
          go_roundw
          case rel => exact ⟨vo, _, pos + 1, 0, o, l, rfl, rfl, rfl, HS2, by omega, by simp, by omega, ⟨by rw [← HR2.out, ret, if_neg (by decide), if_pos rfl]⟩, ⟨fun x hx => HC2.out x (by rw [List.mem_append]; exact .inl hx)⟩⟩
          case measure => rw [iterPos_of HS2.out.it]; exact HME.out
        · have hc10 : ¬ c = 10 := fun e => h10 (by rw [HRC.out, e]; rfl)
          have hc13 : ¬ c = 13 := fun e => h13 (by rw [HRC.out, e]; rfl)
          have HN := Aside0.mk hc10
          have HN3 := Aside0.mk hc13
          clear hc10 hc13
          have hr10 : ¬ (r : Int) = 10 := by omega
          have hr13 : ¬ (r : Int) = 13 := by omega
          clear h10 h13
          by_cases hjl : j < l.length
          · obtain ⟨g, cap, e, _, _⟩ := HS2.out.rl.form (by rw [HL2.out]; omega)
            injection e with e1 _ e3
            subst e1
            subst e3
            have hown := HS2.out.rl
            have hat := own_at hown (j : Int) (by omega) (by rw [HL2.out]; omega)
            have hst := own_store hown (j : Int) (r : Int)
            simp only [Int.toNat_natCast] at hat hst
            obtain ⟨hcell, hfr⟩ := hat
            have HST := Aside0.mk hst
            have hjl' : (j : Int) < ((ofBs l).length : Nat) := by rw [HL2.out]; omega
            clear hst hown
            have N : Aside0 (St w s vo (.slice (some ⟨g, 0, none⟩) (ofBs l).length cp) o (l.set j c) (pos + 1) (wn.setCell ⟨g, j, none⟩ (.int .i32 r))) := ⟨HS2.out.lineTo (by
              have := HST.out.1
              rw [HRC.out, ofBs_set] at this
              rw [HRC.out, show (ofBs (l.set j c)).length = (ofBs l).length by rw [ofBs_len, ofBs_len, List.length_set]]
              exact this) (HS2.out.bl.grown HST.out.2 HS2.out.bl.size (fun k hk => by injection hk with hk; subst hk; exact own_base HS2.out.rl _ rfl)) HST.out.2 rfl⟩
            go_wp2
            go_roundw
            case rel => exact ⟨vo, _, pos + 1, j + 1, o, l.set j c, rfl, rfl, by go_num, N, by omega, by rw [List.length_set]; omega, by rw [List.length_set]; omega, ⟨by rw [← HR2.out, ret, if_neg HN.out, if_neg HN3.out, if_pos hjl]⟩, ⟨fun x hx => by
              rcases List.mem_append.1 hx with h | h
              · exact HC2.out x (by simp [h])
              · rcases List.mem_or_eq_of_mem_set h with h | h
                · exact HC2.out x (by simp [h])
                · exact HC2.out x (by simp [h])⟩⟩
            case measure => rw [iterPos_of N.out.it]; exact HME.out
          · have hjl' : ¬ (j : Int) < ((ofBs l).length : Nat) := by rw [HL2.out]; omega
            go_wp2_with (first
              | ((with_reducible refine gate_builtin (b := .append) (xs := #[.tmp 13, .tmp 15]) rfl ?_); at_builtin; refine print_append_num (w0 := w) w.heap.size rfl (.tmp 13) (.tmp 15) 131 21 .i32 4 rfl Try.underlying131 info32 (by decide) (.slice A (ofBs l).length cp) (ofBs l) r rfl rfl HS2.out.rl HS2.out.bl HS2.out.bl.size (by rw [HL2.out]; omega) ?_; intro v1 w1 ho hb hg hat; have HO1 := Aside0.mk ho; have HB1 := Aside0.mk hb; have HG1 := Aside0.mk hg; have HT1 := Aside0.mk hat; clear ho hb hg hat))
            have N : Aside0 (St w s vo v1 o (l ++ [c]) (pos + 1) w1) := ⟨HS2.out.line (by
              have := HO1.out
              rw [HRC.out] at this
              rw [ofBs_app]
              exact this) HB1.out HG1.out HT1.out⟩
            go_roundw
            case rel => exact ⟨vo, _, pos + 1, j + 1, o, l ++ [c], rfl, rfl, by go_num, N, by omega, by simp; omega, by simp; omega, ⟨by rw [← HR2.out, ret, if_neg HN.out, if_neg HN3.out, if_neg hjl]⟩, ⟨by simpa using HC2.out⟩⟩
            case measure => rw [iterPos_of N.out.it]; exact HME.out
    · have hnx : ∀ ty, (Instr.next (.pointer (some ⟨w.heap.size, 0, none⟩)) true ty).run Try.prog wr = _ := fun ty => Lib.run_next_end_at wr w.heap.size s pos ty HS.out.it hlt
      have hend : ret s.data.toList [] [] 0 = o ++ l := by
        rw [← HR.out, List.drop_eq_nil_of_le (by rw [size_l]; omega), ret]
      have HEND := Aside0.mk hend
      clear hend
      obtain ⟨A, cp, rfl, hrd⟩ := own_reads (by have := HS.out.rl; exact this)
      have HRD := Aside0.mk hrd
      clear hrd
      have HL1 := Aside0.mk (ofBs_len o)
      have HL2 := Aside0.mk (ofBs_len l)
      go_wp2_with (first
        | ((with_reducible refine gate_builtin (b := .append) (xs := #[.tmp 41, .tmp 42]) rfl ?_); at_builtin; refine print_append_row (w0 := w) w.heap.size rfl (.tmp 41) (.tmp 42) 131 21 .i32 4 rfl Try.underlying131 info32 (by decide) vo (ofBs o) (ofBs l) A (ofBs l).length cp rfl rfl HS.out.ro HRD.out HS.out.bl HS.out.bl.size (by rw [HL1.out, HL2.out]; omega) ?_; intro v1 w1 ho hb hg hat; have HB1 := Aside0.mk hb; have hcv := own_runes (P := Try.prog) Try.underlying131 Try.underlying21 Try.underlying9 ho; clear ho hb hg hat))
      go_ret
      exact ⟨by rw [HEND.out, ← ofBs_app, runesBytes_ascii _ HC.out]; rfl, HB1.out⟩
end Go.Proofs.Ytjoagjkmghmnnaa.TxRetW
