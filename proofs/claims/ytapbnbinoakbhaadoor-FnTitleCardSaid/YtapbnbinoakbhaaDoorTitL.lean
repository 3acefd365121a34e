/-
  Proved: the law FnTitle returns true. Conditions: strings.asciiSpace reads as laid.
-/
import Derived.Test.YtapbnbinoakbhaaDoorTitW
namespace Go.Proofs.YtapbnbinoakbhaaDoor.TitL
open Go.RowKit Go.Proofs.YtapbnbinoakbhaaDoorW.PrintWords Go.Proofs.YtapbnbinoakbhaaDoor.Common Go.Proofs.YtapbnbinoakbhaaDoor.TitP Go.Proofs.YtapbnbinoakbhaaDoor.TitT Go.Proofs.YtapbnbinoakbhaaDoor.BRow Go.Proofs.YtapbnbinoakbhaaDoor.RRow Go.Proofs.YtapbnbinoakbhaaDoor.TitW
set_option linter.unusedVariables false
set_option linter.unusedSimpArgs false

theorem below_drewN_ {B n : Nat} {w w' : World} (hB : B ≤ w.heap.size) (h : Below (w.drewN n).heap.size (w.drewN n) w') : Below B w w' := (pw_below_drewN (Below.refl B w) n).trans (h.mono hB)
set_option maxRecDepth 1000000 in
theorem law_long (l : List UInt8) (hl : 2147483647 < l.length) (hm : l.length ≤ maxLen) (w : World) :
    Calls Tryd.prog 3 #[.string (ofL l)] w fun e w' => e = .returned (.bool true) ∧ Below w.heap.size w w' := by
  have hls : (ofL l).size = l.length := ofL_size l
  unfold maxLen at hm
  go_enter Tryd.func3, Tryd.ntmps3
  go_wp2
  go_ret
  exact ⟨rfl, Below.refl _ _⟩
set_option maxHeartbeats 4000000 in
set_option maxRecDepth 1000000 in
theorem law_c (l : List UInt8) (hl : l.length ≤ 2147483647) (w : World) (hT : T w) :
    Calls Tryd.prog 3 #[.string (ofL l)] w fun e w' => e = .returned (.bool true) ∧ Below w.heap.size w w' := by
  have hls : (ofL l).size = l.length := ofL_size l
  obtain ⟨cap, hcv⟩ := conv_of (ofL l) w
  have HF := Aside0.mk (fresh (ofL l) w cap)
  rw [ofL_data] at HF
  rw [ofL_size] at hcv
  obtain ⟨W1, hW1⟩ : ∃ W1, W1 = (w.drew.alloc (.cells (bytesRow (ofL l) cap) 5 ((bytesRow (ofL l) cap).size, (bytesRow (ofL l) cap).size + 1))) := ⟨_, rfl⟩
  rw [← hW1] at hcv HF
  clear hW1
  have HT := Aside0.mk hT
  clear hT
  go_enter Tryd.func3, Tryd.ntmps3
  go_wp2
  go_loopw [4] (fun i wr => ∃ m : Nat, Value.int .i64 (m : Int) = i ∧ m ≤ l.length ∧ Aside0 (BR w w.heap.size (px f95 m l) wr) ∧ Aside0 (∀ j (h : j < m) (h2 : j < l.length), 32 ≤ (l[j]).toNat ∧ (l[j]).toNat ≤ 126 ∧ l[j] ≠ 46)) (fun i _ => l.length - (intOf i).toNat)
  case atStart => exact ⟨0, rfl, by omega, ⟨by rw [px_zero]; exact HF.out⟩, ⟨fun j h => by omega⟩⟩
  case round =>
    obtain ⟨m, rfl, hm, HR, HG⟩ := hrel
    by_cases hlt : m < l.length
    · obtain ⟨c, hc⟩ : ∃ c, c = l[m] := ⟨_, rfl⟩
      have hcell : wr.cell? ⟨w.heap.size, m, none⟩ = some (.int .u8 (c.toNat : Int)) := by
        have := HR.out.cell m (by rw [px_len]; exact hlt)
        rwa [px_at _ _ _ hlt, ← hc] at this
      have hfr := HR.out.frozen m (by rw [px_len]; exact hlt)
      have hbel := Aside0.mk HR.out.bel
      obtain ⟨r, hr⟩ : ∃ r, r = c.toNat := ⟨_, rfl⟩
      rw [← hr] at hcell
      have hr256 : r < 256 := by rw [hr]; exact c.toNat_lt
      by_cases h32 : r < 32
      · clear hr hc HF HR
        go_wp2
        go_ret
        exact ⟨rfl, hbel.out⟩
      · by_cases h126 : 126 < r
        · clear hr hc HF HR
          go_wp2
          go_ret
          exact ⟨rfl, hbel.out⟩
        · by_cases h46 : (r : Int) = 46
          · clear hr hc HF HR
            go_wp2
            go_ret
            exact ⟨rfl, hbel.out⟩
          · have HG2 : Aside0 (∀ j (h : j < m + 1) (h2 : j < l.length), 32 ≤ (l[j]).toNat ∧ (l[j]).toNat ≤ 126 ∧ l[j] ≠ 46) := ⟨fun j h h2 => by
              by_cases e : j < m
              · exact HG.out j e h2
              · obtain rfl : j = m := by omega
                rw [← hc, ← hr]
                exact ⟨by omega, by omega, fun e => h46 (by rw [hr, e]; rfl)⟩⟩
            by_cases h95 : (r : Int) = 95
            · have hc95 : c = 95 := UInt8.toNat_inj.1 (by show c.toNat = 95; omega)
              have HS := Aside0.mk (HR.out.store m 32 32 rfl)
              rw [px_set f95 m l hlt 32 (by rw [← hc, hc95]; rfl)] at HS
              have b46 : ((r : Int) == 46) = false := beq_eq_false_iff_ne.2 h46
              have b95 : ((r : Int) == 95) = true := beq_iff_eq.2 h95
              clear hr hc HF HR hc95 h46 h95
              go_wp2
              go_roundw
              case rel => exact ⟨m + 1, by go_num, by omega, HS, HG2⟩
              case measure => simp [intOf]; omega
            · have HS := HR
              rw [px_skip f95 m l hlt (by unfold f95; rw [← hc, if_neg (fun e => h95 (by rw [hr, e]; rfl))])] at HS
              have b46 : ((r : Int) == 46) = false := beq_eq_false_iff_ne.2 h46
              have b95 : ((r : Int) == 95) = false := beq_eq_false_iff_ne.2 h95
              clear hr hc HF HR h46 h95
              go_wp2
              go_roundw
              case rel => exact ⟨m + 1, by go_num, by omega, HS, HG2⟩
              case measure => simp [intOf]; omega
    · have HE := HR
      rw [px_all _ _ _ (by omega), ← us_px] at HE
      have hst := HE.out.str cap l.length (by rw [us_len])
      have hbel := Aside0.mk HE.out.bel
      have hp : Pr l := fun c hc => by
        obtain ⟨j, hj, rfl⟩ := List.mem_iff_getElem.1 hc
        have := HG.out j (by omega) hj
        exact ⟨this.1, this.2.1⟩
      have h46 : ∀ c ∈ l, c ≠ 46 := fun c hc => by
        obtain ⟨j, hj, rfl⟩ := List.mem_iff_getElem.1 hc
        exact (HG.out j (by omega) hj).2.2
      obtain ⟨z, hz⟩ : ∃ z, z = trimS (us l) := ⟨_, rfl⟩
      have hzl : z.length ≤ l.length := by rw [hz]; have := trim_len (us l); rw [us_len] at this; exact this
      have A := fun W => Aside0.mk (trim_c (us l) (by rw [us_len]; exact hl) W)
      rw [← hz] at A
      obtain ⟨y, hy⟩ : ∃ y, y = ofL (Lib.toUpperA z) := ⟨_, rfl⟩
      have B := fun W => Aside0.mk (upper_c z (by omega) W)
      rw [← hy] at B
      have I := fun (h : l.length ≤ 300) (hne : z ≠ []) W (hb : Below w.heap.size w W) => Aside0.mk (impl_c l hp h46 h (by rw [← hz]; exact hne) W (fun W' hb' => HT.out.on hb W' (hb'.mono hb.size)))
      rw [← hz, ← hy] at I
      have hyz : y = ByteArray.empty ↔ z = [] := by
        rw [hy]
        constructor
        · intro e
          have : (Lib.toUpperA z).length = 0 := by rw [← ofL_size, e]; rfl
          rw [up_len] at this
          exact List.eq_nil_of_length_eq_zero this
        · intro e; rw [e]; rfl
      clear hp h46 HR HF HG hy hz HE
      by_cases h300 : l.length ≤ 300
      · by_cases hze : z = []
        · have hye := hyz.2 hze
          clear hyz I hze
          go_wp2_with (first
            | (go_at_call 5; refine (A _).out.mono ?_; rintro e w2 ⟨rfl, ⟨nd, rfl⟩⟩)
            | (go_at_call 4; refine (B _).out.mono ?_; rintro e w3 ⟨rfl, hb⟩; have HB3 := Aside0.mk hb; clear hb))
          go_ret
          exact ⟨rfl, hbel.out.trans (below_drewN_ (hbel.out.size) HB3.out)⟩
        · have hye : ¬ y = ByteArray.empty := fun e => hze (hyz.1 e)
          have hye2 : ¬ y.toList = [] := fun e => hye (by apply WideShapes.bytes_inj; rw [← tl, e]; rfl)
          have hye3 : (y.toList == []) = false := beq_eq_false_iff_ne.2 hye2
          have I2 := I h300 hze
          clear I
          clear hyz
          go_wp2_with (first
            | (go_at_call 5; refine (A _).out.mono ?_; rintro e w2 ⟨rfl, ⟨nd, rfl⟩⟩)
            | (go_at_call 4; refine (B _).out.mono ?_; rintro e w3 ⟨rfl, hb⟩; have HB3 := Aside0.mk (hbel.out.trans (below_drewN_ (hbel.out.size) hb)); clear hb)
            | (go_at_call 6; refine (I2 _ HB3.out).out.mono ?_; rintro e w4 ⟨rfl, hb⟩; have HB4 := Aside0.mk (HB3.out.trans (hb.mono HB3.out.size)); clear hb))
          go_ret
          exact ⟨rfl, HB4.out⟩
      · clear hyz I
        go_wp2_with (first
          | (go_at_call 5; refine (A _).out.mono ?_; rintro e w2 ⟨rfl, ⟨nd, rfl⟩⟩)
          | (go_at_call 4; refine (B _).out.mono ?_; rintro e w3 ⟨rfl, hb⟩; have HB3 := Aside0.mk hb; clear hb))
        go_ret
        exact ⟨rfl, hbel.out.trans (below_drewN_ (hbel.out.size) HB3.out)⟩
end Go.Proofs.YtapbnbinoakbhaaDoor.TitL
