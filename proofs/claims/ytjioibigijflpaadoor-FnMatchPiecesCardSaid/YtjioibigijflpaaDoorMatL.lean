/-
  Proved: the law FnMatchPieces returns true. Conditions: none.
-/
import Derived.Test.YtjioibigijflpaaDoorMatZ
namespace Go.Proofs.YtjioibigijflpaaDoor.MatL
open Go.RowKit Go.Proofs.YtjioibigijflpaaDoorW.PrintWords Go.Proofs.YtjioibigijflpaaDoor.Common Go.Proofs.YtjioibigijflpaaDoor.MatP Go.Proofs.YtjioibigijflpaaDoor.MatW Go.Proofs.YtjioibigijflpaaDoor.MatM Go.Proofs.YtjioibigijflpaaDoor.MatZ
set_option linter.unusedVariables false
set_option linter.unusedSimpArgs false
set_option maxRecDepth 1000000

structure Cel (w : World) (a b c : List UInt8) (fold : Bool) (W : World) : Prop where
  k1 : W.cell? ⟨w.heap.size, 0, none⟩ = some (.string (ofL a))
  k2 : W.cell? ⟨w.heap.size + 1, 0, none⟩ = some (.string (ofL b))
  k3 : W.cell? ⟨w.heap.size + 1 + 1, 0, none⟩ = some (.string (ofL c))
  k4 : W.cell? ⟨w.heap.size + 1 + 1 + 1, 0, none⟩ = some (.bool fold)
  bel : Below w.heap.size w W
theorem Cel.on {w W W' : World} {a b c : List UInt8} {fold : Bool} (h : Cel w a b c fold W) (hb : Below W.heap.size W W') : Cel w a b c fold W' :=
  ⟨pw_cell_below hb h.k1, pw_cell_below hb h.k2, pw_cell_below hb h.k3, pw_cell_below hb h.k4, h.bel.trans (hb.mono h.bel.size)⟩
abbrev W0 (w : World) (a b c : List UInt8) (fold : Bool) : World := (((w.alloc (.cells #[.string (ofL a)] 9)).alloc (.cells #[.string (ofL b)] 9)).alloc (.cells #[.string (ofL c)] 9)).alloc (.cells #[.bool fold] 4)
theorem cel0 (w : World) (a b c : List UInt8) (fold : Bool) : Cel w a b c fold (W0 w a b c fold) := by
  refine ⟨by go_simp, by go_simp, by go_simp, by go_simp, below_alloc (below_alloc (below_alloc (below_alloc (Below.refl _ _) _) _) _) _⟩
theorem law_long (a b c : List UInt8) (fold : Bool) (ha : a.length ≤ maxLen) (hb : b.length ≤ maxLen) (hc : c.length ≤ maxLen) (h : 2147483647 < a.length ∨ (a.length ≤ 2147483647 ∧ 2147483647 < b.length) ∨ (a.length ≤ 2147483647 ∧ b.length ≤ 2147483647 ∧ 2147483647 < c.length) ∨ (a.length ≤ 2147483647 ∧ b.length ≤ 2147483647 ∧ c.length ≤ 2147483647 ∧ 600 < a.length + b.length + c.length)) (w : World) :
    Calls Tryd.prog 3 #[.string (ofL a), .string (ofL b), .string (ofL c), .bool fold] w fun e w' => e = .returned (.bool true) ∧ Below w.heap.size w w' := by
  have q1 : (ofL a).size = a.length := ofL_size a
  have q2 : (ofL b).size = b.length := ofL_size b
  have q3 : (ofL c).size = c.length := ofL_size c
  unfold maxLen at ha hb hc
  have HB := Aside0.mk (cel0 w a b c fold).bel
  rcases h with h | ⟨h1, h⟩ | ⟨h1, h2, h⟩ | ⟨h1, h2, h3, h⟩
  all_goals
    go_enter Tryd.func3, Tryd.ntmps3
    go_wp2
    go_ret
    exact ⟨rfl, HB.out⟩
set_option maxHeartbeats 8000000 in
theorem law_short (a b c t : List UInt8) (htt : a ++ b ++ c = t) (fold : Bool) (h : a.length + b.length + c.length ≤ 600) (w : World) :
    Calls Tryd.prog 3 #[.string (ofL a), .string (ofL b), .string (ofL c), .bool fold] w fun e w' => e = .returned (.bool true) ∧ Below w.heap.size w w' := by
  have q1 : (ofL a).size = a.length := ofL_size a
  have q2 : (ofL b).size = b.length := ofL_size b
  have q3 : (ofL c).size = c.length := ofL_size c
  have q4 : (ofL (a ++ b)).size = a.length + b.length := by rw [ofL_size, List.length_append]
  have e1 : ofL a ++ ofL b = ofL (a ++ b) := app_ofL a b
  have e2 : ofL (a ++ b) ++ ofL c = ofL t := by rw [app_ofL, htt]
  have e3 : ofL b ++ ofL c = ofL (b ++ c) := app_ofL b c
  have HK0 := Aside0.mk (cel0 w a b c fold)
  obtain ⟨p, hp, hpc⟩ := plain_c t (by rw [← htt]; simp; omega)
  have P := fun W => Aside0.mk (hpc W)
  cases p with
  | false =>
    clear hp hpc htt
    go_enter Tryd.func3, Tryd.ntmps3
    go_wp2_with (go_at_call 5; refine (P _).out.mono ?_; rintro e w1 ⟨rfl, ⟨nd, rfl⟩⟩)
    go_ret
    exact ⟨rfl, pw_below_drewN HK0.out.bel nd⟩
  | true =>
    have ht := hp rfl
    have r6 : askB fold t 6 b = true := by rw [← htt]; exact ask6 fold a b c
    have r7 : askB fold t 7 b = false := by rw [← htt]; exact ask7 fold a b c
    have r8 : askB fold t 8 a = true := by rw [← htt, List.append_assoc]; exact ask8 fold a _
    have r9 : askB fold t 9 c = true := by rw [← htt]; exact ask9 fold _ c
    have s8 : askB fold t 8 (a ++ b) = true := by rw [← htt]; exact ask8 fold _ c
    have s9 : askB fold t 9 (b ++ c) = true := by rw [← htt, List.append_assoc]; exact ask9 fold a _
    have ha : ∀ x ∈ a, okc x := fun x hx => ht x (by rw [← htt]; simp [hx])
    have hb : ∀ x ∈ b, okc x := fun x hx => ht x (by rw [← htt]; simp [hx])
    have hc : ∀ x ∈ c, okc x := fun x hx => ht x (by rw [← htt]; simp [hx])
    have hab : ∀ x ∈ a ++ b, okc x := fun x hx => (List.mem_append.1 hx).elim (ha x) (hb x)
    have hbc : ∀ x ∈ b ++ c, okc x := fun x hx => (List.mem_append.1 hx).elim (hb x) (hc x)
    have A := fun op hop s hs hps W (k : Cel w a b c fold W) => Aside0.mk (ask_c op hop a b c s t htt fold h hs ht hps _ _ _ _ W k.k1 k.k2 k.k3 k.k4)
    have A1 := fun W k => A 6 (.inl rfl) b (by omega) hb W k
    have A2 := fun W k => A 8 (.inr (.inr (.inl rfl))) a (by omega) ha W k
    have A3 := fun W k => A 9 (.inr (.inr (.inr rfl))) c (by omega) hc W k
    have A4 := fun W k => A 8 (.inr (.inr (.inl rfl))) (a ++ b) (by rw [List.length_append]; omega) hab W k
    have A5 := fun W k => A 9 (.inr (.inr (.inr rfl))) (b ++ c) (by rw [List.length_append]; omega) hbc W k
    have A6 := fun W k => A 7 (.inr (.inl rfl)) b (by omega) hb W k
    clear hp hpc htt ht ha hb hc hab hbc A
    have hmf : ∀ (fn : Fn) (first cap : Array Value) (w : World), (Instr.makeFunc fn first cap).run Tryd.prog w = .ok (.func fn first cap) w := fun _ _ _ _ => rfl
    go_enter Tryd.func3, Tryd.ntmps3
    go_wp2_with (first
      | (go_at_call 5; refine (P _).out.mono ?_; rintro e w1 ⟨rfl, ⟨nd, rfl⟩⟩; have HK1 := Aside0.mk (HK0.out.on (pw_below_drewN (Below.refl _ _) nd)))
      | (go_at_call_of 6 (Value.int IntKind.i64 6); refine (A1 _ HK1.out).out.mono ?_; rintro e w2 ⟨rfl, hb⟩; have HK2 := Aside0.mk (HK1.out.on hb); clear hb; obtain ⟨k1, k2, k3, k4, _⟩ := HK2.out)
      | (go_at_call_of 6 (Value.string (ofL a)); refine (A2 _ HK2.out).out.mono ?_; rintro e w3 ⟨rfl, hb⟩; have HK3 := Aside0.mk (HK2.out.on hb); clear hb k1 k2 k3 k4; obtain ⟨k1, k2, k3, k4, _⟩ := HK3.out)
      | (go_at_call_of 6 (Value.string (ofL c)); refine (A3 _ HK3.out).out.mono ?_; rintro e w4 ⟨rfl, hb⟩; have HK4 := Aside0.mk (HK3.out.on hb); clear hb k1 k2 k3 k4; obtain ⟨k1, k2, k3, k4, _⟩ := HK4.out)
      | (go_at_call_of 6 (Value.string (ofL (a ++ b))); refine (A4 _ HK4.out).out.mono ?_; rintro e w5 ⟨rfl, hb⟩; have HK5 := Aside0.mk (HK4.out.on hb); clear hb k1 k2 k3 k4; obtain ⟨k1, k2, k3, k4, _⟩ := HK5.out)
      | (go_at_call_of 6 (Value.string (ofL (b ++ c))); refine (A5 _ HK5.out).out.mono ?_; rintro e w6 ⟨rfl, hb⟩; have HK6 := Aside0.mk (HK5.out.on hb); clear hb k1 k2 k3 k4; obtain ⟨k1, k2, k3, k4, _⟩ := HK6.out)
      | (go_at_call_of 6 (Value.int IntKind.i64 7); refine (A6 _ HK6.out).out.mono ?_; rintro e w7 ⟨rfl, hb⟩; have HK7 := Aside0.mk (HK6.out.on hb); clear hb))
    go_ret
    exact ⟨rfl, HK7.out.bel⟩
theorem walk (a0 a1 a2 : ByteArray) (a3 : Bool) (w0 : a0.size ≤ maxLen) (w1 : a1.size ≤ maxLen) (w2 : a2.size ≤ maxLen) (w : World) : Calls Tryd.prog 3 #[.string a0, .string a1, .string a2, .bool a3] w fun e w' => e = .returned (.bool true) ∧ Below w.heap.size w w' := by
  obtain ⟨a, rfl⟩ : ∃ l, a0 = ofL l := ⟨a0.data.toList, (ofL_of a0).symm⟩
  obtain ⟨b, rfl⟩ : ∃ l, a1 = ofL l := ⟨a1.data.toList, (ofL_of a1).symm⟩
  obtain ⟨c, rfl⟩ : ∃ l, a2 = ofL l := ⟨a2.data.toList, (ofL_of a2).symm⟩
  rw [ofL_size] at w0 w1 w2
  by_cases h : a.length ≤ 2147483647 ∧ b.length ≤ 2147483647 ∧ c.length ≤ 2147483647 ∧ a.length + b.length + c.length ≤ 600
  · exact law_short a b c _ rfl a3 h.2.2.2 w
  · exact law_long a b c a3 w0 w1 w2 (by omega) w
end Go.Proofs.YtjioibigijflpaaDoor.MatL
