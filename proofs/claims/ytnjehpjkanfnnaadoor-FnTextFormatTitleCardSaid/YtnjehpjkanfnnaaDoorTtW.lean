/-
  Proved: what spec.TxWords returns, as a plain function over the text's runes. Conditions: a text of at most 1000000 bytes.
-/
import Derived.Test.YtnjehpjkanfnnaaDoorBkW
import Derived.Laws.Runes
namespace Go.Proofs.YtnjehpjkanfnnaaDoor.TtW
open Go.RowKit Go.Proofs.YtnjehpjkanfnnaaDoorW.PrintWords Go.Proofs.YtnjehpjkanfnnaaDoor.GEK Go.Proofs.YtnjehpjkanfnnaaDoor.LstN Go.Proofs.YtnjehpjkanfnnaaDoor.Common
set_option linter.unusedVariables false
set_option linter.unusedSimpArgs false
set_option maxRecDepth 1000000
theorem enc_size (r : Int) : (Utf8.encode r).size ≤ 4 := by
  unfold Utf8.encode
  dsimp only
  repeat' split
  all_goals (show _ ≤ 4; simp [ByteArray.size])
theorem info9 : (Tryd.prog.info? 9).map (fun i => (i.zero, i.size, i.bytes)) = some (some (.string ⟨#[]⟩), 1, 16) := by kernel_rfl
def addLast (L : List ByteArray) (x : ByteArray) : List ByteArray := L.set (L.length - 1) (rdOf ByteArray.empty L ((L.length - 1 : Nat) : Int) ++ x)
theorem add_len (L : List ByteArray) (x : ByteArray) : (addLast L x).length = L.length := by simp [addLast]
theorem last_le (L : List ByteArray) (b : Nat) (h : ∀ x ∈ L, x.size ≤ b) (hne : L ≠ []) : (rdOf ByteArray.empty L ((L.length - 1 : Nat) : Int)).size ≤ b := by
  have hl : L.length - 1 < L.length := by have := List.length_pos_iff.2 hne; omega
  have : rdOf ByteArray.empty L ((L.length - 1 : Nat) : Int) = L[L.length - 1] := by
    simp [rdOf, List.getD_eq_getElem?_getD, List.getElem?_eq_getElem hl]
  rw [this]
  exact h _ (List.getElem_mem hl)
theorem add_le (L : List ByteArray) (x : ByteArray) (b : Nat) (h : ∀ x ∈ L, x.size ≤ b) (hne : L ≠ []) (hx : x.size ≤ 4) : ∀ y ∈ addLast L x, y.size ≤ b + 4 := by
  intro y hy
  rcases List.mem_or_eq_of_mem_set hy with h1 | rfl
  · have := h y h1; omega
  · have := last_le L b h hne
    rw [ByteArray.size_append]; omega
structure St (w : World) (it : Nat) (s : ByteArray) (pos : Nat) (v : Value) (L : List ByteArray) (wr : World) : Prop where
  iter : wr.heap[it]? = some (.stringIter s pos)
  row : Kd.R Kd.string 9 wr w.heap.size (fun _ => True) v L
  bel : Below w.heap.size w wr
  itb : w.heap.size ≤ it
variable {w wr w1 : World} {it pos : Nat} {s : ByteArray} {v v1 : Value} {L L1 : List ByteArray}
theorem St.next (h : St w it s pos v L wr) (q : Nat) : St w it s q v L (wr.iterAt it s q) := by
  refine ⟨Lib.iterAt_heap wr it s pos q h.iter, Kd.R_mono (Kd.R_step (Kd.R_bound h.row) (fun k hk hlt => ?_)) (fun k hk => hk.1), Lib.below_iterAt h.bel h.itb s q, h.itb⟩
  obtain ⟨p, hp, cells, hc⟩ := hk.2.2.2
  exact Lib.iterAt_other wr it k s q (fun e => by subst e; rw [h.iter] at hc; cases hc)
theorem St.grow (h : St w it s pos v L wr) (hg : wr.grownBy w1 v.ownBlock) (hr : Kd.R Kd.string 9 w1 w.heap.size (fun _ => True) v1 L1) : St w it s pos v1 L1 w1 := by
  refine ⟨(hg.block _ (Array.getElem?_eq_some_iff.1 h.iter).1 (fun e => ?_)).trans h.iter, hr, h.bel.grown hg h.bel.size (fun k hk => Kd.R_base h.row k hk), h.itb⟩
  obtain ⟨X, hX⟩ := Kd.R_typed h.row it e.symm
  rw [h.iter] at hX
  cases hX
theorem dec_four (s : ByteArray) (pos : Nat) : (Utf8.decode s pos).2 ≤ 4 := by
  rw [Lib.decode_N]
  rcases Lib.decodeN_shape (s.data.toList.length - pos) (s.data.toList.getD pos 0).toNat (s.data.toList.getD (pos + 1) 0).toNat (s.data.toList.getD (pos + 2) 0).toNat (s.data.toList.getD (pos + 3) 0).toNat with ⟨_, e⟩ | ⟨_, _, _, _, e⟩ | ⟨_, _, _, _, _, _, e⟩ | ⟨_, _, _, _, _, _, _, e⟩ | e <;> rw [e] <;> simp
theorem put_last {P : List ByteArray → Prop} {y : ByteArray} {b : Nat} (h : St w it s pos v L wr) (hn : 0 < L.length) (hE : ∀ x ∈ L, x.size ≤ b) (hy : y.size ≤ 4) (hP : P (addLast L y)) :
    ∃ (g cap : Nat) (_ : v = .slice (some ⟨g, 0, none⟩) L.length cap), ∃ (_ : L.length - 1 < L.length) (x : ByteArray), wr.cell? ⟨g, L.length - 1, none⟩ = some (.string x) ∧ wr.frozen? ⟨g, L.length - 1, none⟩ = false ∧ x.size ≤ b ∧
      Aside0 (∀ z ∈ L.set (L.length - 1) (x ++ y), z.size ≤ b + 4) ∧ Aside0 (St w it s pos (.slice (some ⟨g, 0, none⟩) L.length cap) (L.set (L.length - 1) (x ++ y)) (wr.setCell ⟨g, L.length - 1, none⟩ (.string (x ++ y)))) ∧ Aside0 (P (L.set (L.length - 1) (x ++ y))) := by
  have hne := List.length_pos_iff.1 hn
  obtain ⟨g, cap, rfl, hgb, hgl, X9, hty⟩ := Kd.R_form h.row hn
  have hx := Kd.R_celln (⟨#[]⟩ : ByteArray) h.row ((L.length - 1 : Nat) : Int) (by omega) (by omega)
  have HP := Kd.R_putg h.row ((L.length - 1 : Nat) : Int) (rdOf ByteArray.empty L ((L.length - 1 : Nat) : Int) ++ y)
  have hle := last_le L _ hE hne
  have HAL := add_le L y _ hE hne hy
  rw [Int.toNat_natCast] at hx HP
  exact ⟨g, cap, rfl, by omega, rdOf ByteArray.empty L ((L.length - 1 : Nat) : Int), hx.1, hx.2, hle, ⟨HAL⟩, ⟨h.grow HP.2 HP.1⟩, ⟨hP⟩⟩
def wordsFrom (s : ByteArray) : Nat → Nat → Bool → List ByteArray → List ByteArray
  | 0, _, _, L => L
  | f + 1, pos, inn, L => if pos < s.size then (if (Utf8.decode s pos).1 = 32 ∨ (Utf8.decode s pos).1 = 10 then wordsFrom s f (pos + (Utf8.decode s pos).2) false L
      else wordsFrom s f (pos + (Utf8.decode s pos).2) true (addLast (if inn = true then L else L ++ [⟨#[]⟩]) (Utf8.encode ((Utf8.decode s pos).1 : Int)))) else L
def words (s : ByteArray) : List ByteArray := wordsFrom s s.size 0 false []
set_option maxHeartbeats 8000000 in
theorem words_walk (s : ByteArray) (hsz : s.size ≤ 1000000) (w : World) :
    Calls Tryd.prog 9 #[.string s] w fun e w' => ∃ v, e = .returned v ∧ Kd.R Kd.string 9 w' w.heap.size (fun _ => True) v (words s) ∧ Below w.heap.size w w' := by
  have HCV : ∀ (n : Int) (W : World), (convert 21 9 (.int .i32 n)).run Tryd.prog W = .ok (.string (Utf8.encode n)) W := fun n W => by
    simp [convert, run_underlying Tryd.underlying21, run_underlying Tryd.underlying9, Conv.intToString]
  go_enter Tryd.func9, Tryd.ntmps9
  go_wp2
  have HS : Aside0 (St w w.heap.size s 0 (.slice none 0 0) [] (w.iter s 0)) := Aside0.mk ⟨World.iter_heap w s 0, Kd.R_nil _ _ _ _ _, (Below.refl _ w).alloc (Nat.le_refl _) _, Nat.le_refl _⟩
  go_loopw [3, 4, 6] (fun v u _ wr => ∃ (pos fuel : Nat) (v0 : Value) (inn : Bool) (L : List ByteArray), v0 = v ∧ Value.bool inn = u ∧ pos ≤ s.size + 4 ∧ s.size ≤ pos + fuel ∧ L.length ≤ pos ∧ Aside0 (inn = true → L ≠ []) ∧ Aside0 (∀ x ∈ L, x.size ≤ 4 * pos) ∧ Aside0 (wordsFrom s fuel pos inn L = words s) ∧ Aside0 (St w w.heap.size s pos v0 L wr)) (fun _ _ _ wr => s.size - wr.iterPos w.heap.size)
  case atStart => exact ⟨0, s.size, _, false, [], rfl, rfl, by omega, by omega, by simp, Aside0.mk (fun h => by cases h), Aside0.mk (fun x hx => by simp at hx), Aside0.mk rfl, HS⟩
  case round =>
    obtain ⟨pos, fuel, v0, inn, L, rfl, rfl, hps, hfu, hln, HIN, HE, hacc, HST⟩ := hrel
    clear HS
    by_cases hp : pos < s.size
    · have hnx : ∀ ty, (Instr.next (.pointer (some ⟨w.heap.size, 0, none⟩)) true ty).run Tryd.prog wr = _ := fun ty => Lib.run_next_any_at wr w.heap.size s pos ty HST.out.iter hp
      have hwd := width_pos s pos hp
      have hd1 := decode_le s pos
      have hd2 := dec_four s pos
      have HS2 := Aside0.mk (HST.out.next (pos + (Utf8.decode s pos).2))
      have HME : Aside0 (wr.iterPos w.heap.size = pos) := ⟨by simp only [World.iterPos, HST.out.iter]⟩
      obtain ⟨f, rfl⟩ : ∃ f, fuel = f + 1 := ⟨fuel - 1, by omega⟩
      obtain ⟨r, hr⟩ : ∃ r, r = (Utf8.decode s pos).1 := ⟨_, rfl⟩
      obtain ⟨m, hm⟩ : ∃ m, m = (Utf8.decode s pos).2 := ⟨_, rfl⟩
      have hac := hacc.out
      simp only [wordsFrom, if_pos hp] at hac
      rw [← hr, ← hm] at hac hnx
      rw [← hr] at hd1
      rw [← hm] at hwd HS2 hd2
      obtain ⟨wn, hwn⟩ : ∃ wn, wn = wr.iterAt w.heap.size s (pos + m) := ⟨_, rfl⟩
      rw [← hwn] at hnx HS2
      clear hr hm hacc HST hwn
      by_cases h10 : r = 32 ∨ r = 10
      · rw [if_pos h10] at hac
        have HA := Aside0.mk hac
        clear hac
        rcases h10 with rfl | rfl
        all_goals (
          go_wp2
          go_roundw
          case rel => exact ⟨pos + m, f, v0, false, L, rfl, rfl, by omega, by omega, by omega, Aside0.mk (fun h => by cases h), Aside0.mk (fun x hx => by have := HE.out x hx; omega), HA, HS2⟩
          case measure => rw [HME.out]; simp only [World.iterPos, HS2.out.iter]; omega)
      · rw [if_neg h10] at hac
        have h32' : ¬ (r : Int) = 32 := by omega
        have h10' : ¬ (r : Int) = 10 := by omega
        have hb32 : ((r : Int) == 32) = false := by simpa using h32'
        have hb10 : ((r : Int) == 10) = false := by simpa using h10'
        have hes := enc_size (r : Int)
        have hcv := HCV (r : Int)
        obtain ⟨y, hye⟩ : ∃ y, y = Utf8.encode (r : Int) := ⟨_, rfl⟩
        rw [← hye] at hac hes hcv
        clear hye HCV h10
        cases inn
        · rw [if_neg (by simp)] at hac
          have HR : Aside0 (Kd.R Kd.string 9 (wn.alloc (.cells #[.string ⟨#[]⟩] 9)) w.heap.size (fun _ => True) v0 L) := Aside0.mk (Kd.R_below HS2.out.row (below_alloc (Below.refl _ _) _))
          have HE1 : Aside0 (∀ x ∈ L ++ [(⟨#[]⟩ : ByteArray)], x.size ≤ 4 * pos) := Aside0.mk (fun x hx => by rcases List.mem_append.1 hx with h | h; (exact HE.out x h); (simp at h; subst h; exact Nat.zero_le _))
          obtain ⟨L1, hL1⟩ : ∃ L1, L1 = L ++ [(⟨#[]⟩ : ByteArray)] := ⟨_, rfl⟩
          have hl1 : L1.length = L.length + 1 := by rw [hL1]; simp
          rw [← hL1] at hac HE1
          clear HE HIN
          have HAC := Aside0.mk hac
          clear hac
          go_wp2_with (first
            | ((with_reducible refine gate_builtin (b := .append) (xs := #[.tmp 20, .tmp 21]) rfl ?_); at_builtin; refine Kd.R_append Kd.string (w0 := w) w.heap.size rfl (.tmp 20) (.tmp 21) 22 9 (.string ⟨#[]⟩) 16 rfl Tryd.underlying22 info9 rfl (by decide) (by omega) v0 L ⟨#[]⟩ [.string ⟨#[]⟩] (fun _ => True) (fun _ => False) rfl rfl ?aP (fun _ hk => hk.elim) ?aF ?aO ?aB ?aS ?aL ?_; (case aP => exact rfl); (case aB => exact HS2.out.bel); (case aF => exact (fun _ _ => trivial)); (case aO => exact HS2.out.row); (case aS => exact HS2.out.bel.size); (case aL => omega); intro v2 w2 ho hb hg hat; rw [← hL1] at ho; have HS3 := Aside0.mk (HS2.out.grow hg ho); clear ho hb hg hat; obtain ⟨g, cap, rfl, hnl, x, hx0, hf0, hle, HAL, HS4, HA⟩ := put_last (P := fun l => wordsFrom s f (pos + m) true l = words s) HS3.out (by omega) HE1.out hes HAC.out; have hl2 : L1.length - 1 = L.length := by omega
               rw [hl2] at hx0 hf0 HAL HS4 HA; clear HS3 HS2 HE1 HAC HR hl2 hnl)
            | ((with_reducible refine gate_store (t := 9) (p := 32) rfl ?_); refine store_event (t := 9) (p := 32) (v := ?vo_w24) (w1 := (w2.setCell ⟨g, L.length, none⟩ (.string (x ++ y)))) ?hg ?ho ?hn ?hr ?_; (case ho => rfl); (case hg => rfl); (case hn => rfl); (case hr => first | (go_simp; done) | (go_simp; rfl)); intro w24 hw; rw [← hw] at HS4; clear hw))
          go_roundw
          case rel => exact ⟨pos + m, f, _, true, L1.set L.length (x ++ y), (by first | rfl | (rw [hl1]; rfl) | simp [hl1]), rfl, by omega, by omega, by rw [List.length_set]; omega, Aside0.mk (fun _ e => by have := congrArg List.length e; rw [List.length_set, hl1] at this; simp at this), Aside0.mk (fun z hz => by have := HAL.out z hz; omega), HA, HS4⟩
          case measure => rw [HME.out]; simp only [World.iterPos, HS4.out.iter]; omega
        · rw [if_pos rfl] at hac
          have hne := HIN.out rfl
          have hg1 := List.length_pos_iff.2 hne
          obtain ⟨g, cap, rfl, hgb, hgl, X9, hty⟩ := Kd.R_form HS2.out.row hg1
          have hx := Kd.R_celln (⟨#[]⟩ : ByteArray) HS2.out.row ((L.length - 1 : Nat) : Int) (by omega) (by omega)
          have HP := Kd.R_putg HS2.out.row ((L.length - 1 : Nat) : Int) (rdOf ByteArray.empty L ((L.length - 1 : Nat) : Int) ++ y)
          have hle := last_le L _ HE.out hne
          have hal : addLast L y = L.set (L.length - 1) (rdOf ByteArray.empty L ((L.length - 1 : Nat) : Int) ++ y) := rfl
          have HAL := Aside0.mk (add_le L y _ HE.out hne hes)
          rw [hal] at hac HAL
          rw [Int.toNat_natCast] at hx HP
          obtain ⟨hx0, hf0⟩ := hx
          change wn.cell? _ = some (.string (rdOf ByteArray.empty L ((L.length - 1 : Nat) : Int))) at hx0
          have HS3 := Aside0.mk (HS2.out.grow HP.2 HP.1)
          have HA := Aside0.mk hac
          have hnl : L.length - 1 < L.length := by omega
          obtain ⟨x, hxe⟩ : ∃ x, x = rdOf ByteArray.empty L ((L.length - 1 : Nat) : Int) := ⟨_, rfl⟩
          rw [← hxe] at HS3 HA HAL hle hx0
          clear hac HP hal hty hxe HE HS2 HIN
          go_wp2_with (first | ((with_reducible refine gate_store (t := 9) (p := 32) rfl ?_); refine store_event (t := 9) (p := 32) (v := ?vo_w24) (w1 := (wn.setCell ⟨g, L.length - 1, none⟩ (.string (x ++ y)))) ?hg ?ho ?hn ?hr ?_; (case ho => rfl); (case hg => rfl); (case hn => rfl); (case hr => first | (go_simp; done) | (go_simp; rfl)); intro w24 hw; rw [← hw] at HS3; clear hw))
          go_roundw
          case rel => exact ⟨pos + m, f, _, true, L.set (L.length - 1) (x ++ y), rfl, rfl, by omega, by omega, by simp; omega, Aside0.mk (fun _ e => hne (by simpa using e)), Aside0.mk (fun z hz => by have := HAL.out z hz; omega), HA, HS3⟩
          case measure => rw [HME.out]; simp only [World.iterPos, HS3.out.iter]; omega
    · have hnx : ∀ ty, (Instr.next (.pointer (some ⟨w.heap.size, 0, none⟩)) true ty).run Tryd.prog wr = _ := fun ty => Lib.run_next_end_at wr w.heap.size s pos ty HST.out.iter hp
      have hlast : L = words s := by
        rw [← hacc.out]
        cases fuel with
        | zero => rfl
        | succ f => simp [wordsFrom, hp]
      have HL := Aside0.mk hlast
      clear hlast hacc hln HE HIN
      go_wp2
      go_ret
      rw [← HL.out]
      exact ⟨_, rfl, HST.out.row, HST.out.bel⟩
end Go.Proofs.YtnjehpjkanfnnaaDoor.TtW
