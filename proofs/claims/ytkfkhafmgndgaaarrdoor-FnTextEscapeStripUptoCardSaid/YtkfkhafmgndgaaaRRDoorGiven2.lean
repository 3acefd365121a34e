/-
  Proved: contracts in the print's own form: text.Escape, lightstrconv.Itoa, strings.Join of one text. Conditions: where each plain function gives an answer.
-/
import Derived.Test.YtkfkhafmgndgaaaRRDoorGiven
import Derived.Test.YtkfkhafmgndgaaaRRDoorEsc
namespace Go.Proofs.YtkfkhafmgndgaaaRRDoor.Given2
open Go.RowKit Go.Proofs.YtkfkhafmgndgaaaRRDoorW.PrintWords Go.Proofs.YtkfkhafmgndgaaaRRDoor.Common
set_option linter.unusedVariables false

def text_Escape.f (s q : ByteArray) : Option ByteArray := if s.size ≤ 100000 ∧ q.size ≤ 100000 ∧ 0 < q.size then some (ofL (Esc.esc s.data.toList q.data.toList)) else none
theorem text_Escape.calls (s q : ByteArray) (r : ByteArray) (w : World) (h : text_Escape.f s q = some r) :
    Calls Tryd.prog 29 #[.string s, .string q] w fun e w' => e = .returned (.string r) ∧ Below w.heap.size w w' := by
  unfold text_Escape.f at h
  split at h
  · rename_i hc
    obtain rfl := Option.some.inj h
    exact Esc.esc_walk s q w hc.1 hc.2.1 hc.2.2
  · cases h
def lightstrconv_Itoa.f (n : Int) : Option ByteArray := if 0 ≤ n ∧ n < 9223372036854775808 then some (Color.decB n.toNat) else none
theorem lightstrconv_Itoa.calls (n : Int) (r : ByteArray) (w : World) (h : lightstrconv_Itoa.f n = some r) :
    Calls Tryd.prog 32 #[.int .i64 n] w fun e w' => e = .returned (.string r) ∧ Below w.heap.size w w' := by
  unfold lightstrconv_Itoa.f at h
  split at h
  · rename_i hc
    obtain rfl := Option.some.inj h
    obtain ⟨m, rfl⟩ := Int.eq_ofNat_of_zero_le hc.1
    rw [Int.toNat_natCast]
    exact Color.itoa m (by omega) w
  · cases h
def strings_Join.f (l : List ByteArray) (sep : ByteArray) : Option ByteArray := if l.length = 1 then l[0]? else none
theorem strings_Join.calls (A : Option Addr) (c : Nat) (l : List ByteArray) (sep : ByteArray) (r : ByteArray) (w : World) (hr : Kd.C Kd.string w A l.length l) (hc : l.length ≤ c) (h : strings_Join.f l sep = some r) :
    Calls Tryd.prog 36 #[.slice A l.length c, .string sep] w fun e w' => e = .returned (.string r) ∧ Below w.heap.size w w' := by
  unfold strings_Join.f at h
  split at h
  · rename_i h1
    obtain ⟨ad, rfl, hx⟩ := Kd.at_string hr 0 (by omega) (by omega)
    have e : rdOf ByteArray.empty l 0 = r := by
      obtain ⟨hl, e⟩ := List.getElem?_eq_some_iff.1 h
      have := rdOf_at ByteArray.empty l 0 (by omega)
      rw [← e]; exact this
    rw [e] at hx
    rw [h1]
    have hx2 : w.cell? ad = some (.string r) := by simpa [Addr.add] using hx
    have hx3 : w.cell? (ad.add 0) = some (.string r) := by simpa using hx
    clear h hr e hc h1 hx
    go_enter Tryd.func36, Tryd.ntmps36
    go_wp2_with fail
    go_ret
    exact ⟨rfl, Below.refl _ _⟩
  · cases h
end Go.Proofs.YtkfkhafmgndgaaaRRDoor.Given2
