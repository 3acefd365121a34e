/-
  Proved: what spec.TwUpper and tw.Title return on printable ASCII without points. Conditions: as said; strings.asciiSpace reads as laid.
-/
import Derived.Test.YtapbnbinoakbhaaDoorTitT
import Derived.Test.YtapbnbinoakbhaaDoorBRow
import Derived.Test.YtapbnbinoakbhaaDoorRRow
import Derived.Test.YtapbnbinoakbhaaDoorShelf
import Derived.Lib.AppendIntMem
import Derived.Lib.AtoiErrMem
import Derived.WalkKit
namespace Go.Proofs.YtapbnbinoakbhaaDoor.TitW
open Go.RowKit Go.Proofs.YtapbnbinoakbhaaDoorW.PrintWords Go.Proofs.YtapbnbinoakbhaaDoor.Common Go.Proofs.YtapbnbinoakbhaaDoor.TitP Go.Proofs.YtapbnbinoakbhaaDoor.TitT Go.Proofs.YtapbnbinoakbhaaDoor.BRow Go.Proofs.YtapbnbinoakbhaaDoor.RRow
set_option linter.unusedVariables false
set_option linter.unusedSimpArgs false

set_option maxHeartbeats 4000000 in
set_option maxRecDepth 1000000 in
theorem upper_c (l : List UInt8) (hl : l.length ≤ 2147483647) (w : World) :
    Calls Tryd.prog 4 #[.string (ofL l)] w fun e w' => e = .returned (.string (ofL (Lib.toUpperA l))) ∧ Below w.heap.size w w' := by
  obtain ⟨cap, hcv⟩ := conv_of (ofL l) w
  have HF := Aside0.mk (fresh (ofL l) w cap)
  rw [ofL_data] at HF
  rw [ofL_size] at hcv
  obtain ⟨W1, hW1⟩ : ∃ W1, W1 = (w.drew.alloc (.cells (bytesRow (ofL l) cap) 5 ((bytesRow (ofL l) cap).size, (bytesRow (ofL l) cap).size + 1))) := ⟨_, rfl⟩
  rw [← hW1] at hcv HF
  clear hW1
  go_enter Tryd.func4, Tryd.ntmps4
  go_wp2
  go_loopw [4] (fun i wr => ∃ m : Nat, Value.int .i64 (m : Int) = i ∧ m ≤ l.length ∧ Aside0 (BR w w.heap.size (px Lib.upperB m l) wr)) (fun i _ => l.length - (intOf i).toNat)
  case atStart => exact ⟨0, rfl, by omega, ⟨by rw [px_zero]; exact HF.out⟩⟩
  case round =>
    obtain ⟨m, rfl, hm, HR⟩ := hrel
    by_cases hlt : m < l.length
    · obtain ⟨c, hc⟩ : ∃ c, c = l[m] := ⟨_, rfl⟩
      have hcell : wr.cell? ⟨w.heap.size, m, none⟩ = some (.int .u8 (c.toNat : Int)) := by
        have := HR.out.cell m (by rw [px_len]; exact hlt)
        rwa [px_at _ _ _ hlt, ← hc] at this
      have hfr := HR.out.frozen m (by rw [px_len]; exact hlt)
      have hup := up_eq c
      obtain ⟨r, hr⟩ : ∃ r, r = c.toNat := ⟨_, rfl⟩
      rw [← hr] at hcell
      have hr256 : r < 256 := by rw [hr]; exact c.toNat_lt
      by_cases hin : 97 ≤ r ∧ r ≤ 122
      · rw [← hr, if_pos hin] at hup
        have hv : (((r : Int) - 32)) = ((Lib.upperB c).toNat : Int) := by
          rw [hup, UInt8.toNat_sub_of_le _ _ (UInt8.le_iff_toNat_le.2 (by show 32 ≤ c.toNat; omega))]
          show _ = ((c.toNat - 32 : Nat) : Int)
          omega
        have HS := Aside0.mk (HR.out.store m (Lib.upperB c) _ hv)
        rw [px_set _ _ _ hlt _ (by rw [← hc])] at HS
        have hN1 := hin.1
        have hN2 := hin.2
        clear hin hup hv hr hc HF HR
        go_wp2
        go_roundw
        case rel => exact ⟨m + 1, by go_num, by omega, HS⟩
        case measure => simp [intOf]; omega
      · rw [← hr, if_neg hin] at hup
        have HS := HR
        rw [px_skip _ _ _ hlt (by rw [← hc]; exact hup)] at HS
        clear hup hr hc HF HR
        by_cases h97 : 97 ≤ r
        · have h122 : ¬ r ≤ 122 := fun h => hin ⟨h97, h⟩
          clear hin
          go_wp2
          go_roundw
          case rel => exact ⟨m + 1, by go_num, by omega, HS⟩
          case measure => simp [intOf]; omega
        · clear hin
          go_wp2
          go_roundw
          case rel => exact ⟨m + 1, by go_num, by omega, HS⟩
          case measure => simp [intOf]; omega
    · have HE := HR
      rw [px_all _ _ _ (by omega)] at HE
      have hst := HE.out.str cap l.length (by simp)
      have hbel := Aside0.mk HE.out.bel
      clear HR HF HE
      go_wp2
      go_ret
      exact ⟨rfl, hbel.out⟩
def T (w : World) : Prop := Lib.TabBelow Tryd.prog w.heap.size w "strings.asciiSpace" .u8 Lib.asciiSpaceTab
theorem space_c (l : List UInt8) (hp : Pr l) (hl : l.length ≤ 300) (w W : World) (hT : T w) (hb : Below w.heap.size w W) :
    Calls Tryd.prog 9 #[.string (ofL l)] W fun e w' => e = .returned (.string (ofL (trimS l))) ∧ Below W.heap.size W w' := by
  refine (Tryd.strings_TrimSpace (ofL l) W (by rw [ofL_size]; omega) (fun j b hj => by
    rw [ofL_data] at hj
    have := hp b (List.mem_of_getElem? hj)
    omega) (hT W hb)).mono ?_
  rintro e w' ⟨rfl, rfl⟩
  rw [ofL_data, trim_eq l (fun c hc => (hp c hc).1)]
  exact ⟨rfl, Lib.bytesWorld_below W _ _⟩
theorem toUpper_c (l : List UInt8) (hp : Pr l) (hl : l.length ≤ 300) (W : World) :
    Calls Tryd.prog 10 #[.string (ofL l)] W fun e w' => e = .returned (.string (ofL (Lib.toUpperA l))) ∧ Below W.heap.size W w' := by
  refine (Tryd.strings_ToUpper_ascii (ofL l) W (by rw [ofL_size]; omega) (fun j b hj => by
    rw [ofL_data] at hj
    have := hp b (List.mem_of_getElem? hj)
    omega)).mono ?_
  rintro e w' ⟨rfl, hb⟩
  rw [ofL_data]
  exact ⟨rfl, hb⟩
set_option maxHeartbeats 4000000 in
set_option maxRecDepth 1000000 in
theorem title_c (l : List UInt8) (hp : Pr l) (h46 : ∀ c ∈ l, c ≠ 46) (hl : l.length ≤ 300) (hne : trimS (us l) ≠ []) (w : World) (hT : T w) :
    Calls Tryd.prog 7 #[.string (ofL l)] w fun e w' => e = .returned (.string (ofL (Lib.toUpperA (trimS (us l))))) ∧ Below w.heap.size w w' := by
  obtain ⟨cap, W1, hcv, hrow, hbel⟩ := conv_r (ofL l) (fun c hc => by rw [ofL_data] at hc; have := hp c hc; omega) (by rw [ofL_size]; omega) w w.heap.size (Nat.le_refl _)
  rw [ofL_size] at hcv hrow
  rw [ofL_data] at hrow
  have HF : Aside0 (W1.ownsRow w.heap.size 21 1 (.slice (some ⟨w.heap.size, 0, none⟩) l.length cap) l.length (nums .i32 (ofBs l)) ∧ Below w.heap.size w W1) := ⟨hrow, hbel⟩
  have HT := Aside0.mk hT
  have HP := Aside0.mk hp
  have H46 := Aside0.mk h46
  have HUP : Aside0 (Pr (trimS (us l))) := ⟨fun c hc => us_pr hp c (trim_mem _ _ hc)⟩
  have HUU : Aside0 (Pr (us l)) := ⟨us_pr hp⟩
  obtain ⟨z, hz⟩ : ∃ z, z = trimS (us l) := ⟨_, rfl⟩
  have hze : ¬ ofL z = ByteArray.empty := fun e => hne (by rw [← hz, ← ofL_data z, e]; rfl)
  have hzl : z.length ≤ 300 := by rw [hz]; have := trim_len (us l); rw [us_len] at this; omega
  rw [← hz] at HUP
  have S := fun W (hb : Below w.heap.size w W) => Aside0.mk (space_c (us l) HUU.out (by rw [us_len]; exact hl) w W HT.out hb)
  rw [← hz] at S
  have U := fun W => Aside0.mk (toUpper_c z HUP.out hzl W)
  have hls : (ofL l).size = l.length := ofL_size l
  rw [← hz]
  clear hrow hbel hT hp h46 hz hne HT
  go_enter Tryd.func7, Tryd.ntmps7
  go_wp2
  go_loopw [13] (fun i wr => ∃ m : Nat, Value.int .i64 (m : Int) = i ∧ m ≤ l.length ∧ Aside0 (wr.ownsRow w.heap.size 21 1 (.slice (some ⟨w.heap.size, 0, none⟩) l.length cap) l.length (nums .i32 (ofBs (px f95 m l))) ∧ Below w.heap.size w wr)) (fun i _ => l.length - (intOf i).toNat)
  case atStart => exact ⟨0, rfl, by omega, ⟨by rw [px_zero]; exact HF.out⟩⟩
  case round =>
    obtain ⟨m, rfl, hm, HR⟩ := hrel
    by_cases hlt : m < l.length
    · obtain ⟨c, hc⟩ : ∃ c, c = l[m] := ⟨_, rfl⟩
      have h1 := own_at HR.out.1 (m : Int) (by omega) (by omega)
      have h2 := own_store HR.out.1 (m : Int) (32 : Int)
      rw [rd_ofBs _ m (by rw [px_len]; exact hlt), px_at _ _ _ hlt, ← hc] at h1
      simp only [Int.toNat_natCast] at h1 h2
      obtain ⟨hcell, hfr⟩ := h1
      obtain ⟨r, hr⟩ : ∃ r, r = c.toNat := ⟨_, rfl⟩
      rw [← hr] at hcell
      have hr46 : ¬ (r : Int) = 46 := fun e => H46.out c (by rw [hc]; exact List.getElem_mem _) (UInt8.toNat_inj.1 (by show c.toNat = 46; omega))
      by_cases h95 : (r : Int) = 95
      · have hc95 : c = 95 := UInt8.toNat_inj.1 (by show c.toNat = 95; omega)
        have e32 : (ofBs (px f95 m l)).set m 32 = ofBs (px f95 (m + 1) l) := by
          rw [← px_set f95 m l hlt 32 (by rw [← hc, hc95]; rfl), ← ofBs_set]
          rfl
        rw [e32] at h2
        have HS : Aside0 ((wr.setCell ⟨w.heap.size, m, none⟩ (.int .i32 32)).ownsRow w.heap.size 21 1 (.slice (some ⟨w.heap.size, 0, none⟩) l.length cap) l.length (nums .i32 (ofBs (px f95 (m + 1) l))) ∧ Below w.heap.size w (wr.setCell ⟨w.heap.size, m, none⟩ (.int .i32 32))) := ⟨h2.1, HR.out.2.setCell (Nat.le_refl _) _⟩
        clear e32 h2 hr hc HF HR hc95
        go_wp2
        go_roundw
        case rel => exact ⟨m + 1, by go_num, by omega, HS⟩
        case measure => simp [intOf]; omega
      · have hn95 : f95 l[m] = l[m] := by
          unfold f95
          rw [← hc, if_neg (fun e => h95 (by rw [hr, e]; rfl))]
        have HS := HR
        rw [px_skip f95 m l hlt hn95] at HS
        clear hn95 h2 hr hc HF HR
        go_wp2
        go_roundw
        case rel => exact ⟨m + 1, by go_num, by omega, HS⟩
        case measure => simp [intOf]; omega
    · have HE := HR
      rw [px_all _ _ _ (by omega), ← us_px] at HE
      have hcv2 := own_runes (P := Tryd.prog) Tryd.underlying25 Tryd.underlying21 Tryd.underlying9 HE.out.1
      rw [runesBytes_ascii _ (fun c hc => by have := HUU.out c hc; omega)] at hcv2
      clear HR HF
      go_wp2_with (first
        | (go_at_call 9; refine (S _ HE.out.2).out.mono ?_; rintro e w2 ⟨rfl, hb⟩; have HB2 := Aside0.mk hb; clear hb)
        | (go_at_call 10; refine (U _).out.mono ?_; rintro e w3 ⟨rfl, hb⟩; have HB3 := Aside0.mk hb; clear hb))
      all_goals go_ret
      all_goals exact ⟨rfl, (HE.out.2.trans (HB2.out.mono HE.out.2.size)).trans (HB3.out.mono (Nat.le_trans HE.out.2.size HB2.out.size))⟩
set_option maxRecDepth 100000 in
theorem impl_c (l : List UInt8) (hp : Pr l) (h46 : ∀ c ∈ l, c ≠ 46) (hl : l.length ≤ 300) (hne : trimS (us l) ≠ []) (w : World) (hT : T w) :
    Calls Tryd.prog 6 #[.string (ofL l)] w fun e w' => e = .returned (.string (ofL (Lib.toUpperA (trimS (us l))))) ∧ Below w.heap.size w w' := by
  have C := Aside0.mk (title_c l hp h46 hl hne w hT)
  clear hp h46 hne hT
  go_enter Tryd.func6, Tryd.ntmps6
  go_wp2_with (go_at_call 7; refine C.out.mono ?_; rintro e w1 ⟨rfl, hb⟩; have HB1 := Aside0.mk hb; clear hb)
  go_ret
  exact ⟨rfl, HB1.out⟩
end Go.Proofs.YtapbnbinoakbhaaDoor.TitW
