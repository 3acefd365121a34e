/-
  Proved: spec.TxSimple's contract in the print's own form. Conditions: none.
-/
import Derived.Test.YtkfkhafmgndgaaaRRDoorSimple
import Derived.Test.YtkfkhafmgndgaaaRRDoorColor
namespace Go.Proofs.YtkfkhafmgndgaaaRRDoor.Given
open Go.RowKit Go.Proofs.YtkfkhafmgndgaaaRRDoorW.PrintWords

def spec_TxSimple.f (s : ByteArray) (lines : Bool) : Option Bool := some (Simple.simple s lines)
theorem spec_TxSimple.calls (s : ByteArray) (lines : Bool) (r : Bool) (w : World) (h : spec_TxSimple.f s lines = some r) :
    Calls Tryd.prog 27 #[.string s, .bool lines] w fun e w' => e = .returned (.bool r) ∧ Below w.heap.size w w' := by
  obtain rfl := Option.some.inj h
  exact Simple.simple_walk s lines w

/-- The table of powers of ten reads as laid, and goes on doing so. -/
structure Tab (w : World) : Prop where mk :: (out : Color.T w.heap.size w)
theorem tab_step {w w1 : World} (h : Tab w) (hb : Below w.heap.size w w1) : Tab w1 := ⟨fun w2 h2 => h.out w2 (hb.trans (h2.mono hb.size))⟩
def strconv_Itoa.f (n : Int) : Option ByteArray := if -9223372036854775808 ≤ n ∧ n ≤ 9223372036854775807 then some (Color.itB n) else none
theorem strconv_Itoa.calls (n : Int) (r : ByteArray) (w : World) (hT : Tab w) (h : strconv_Itoa.f n = some r) :
    Calls Tryd.prog 24 #[.int .i64 n] w fun e w' => e = .returned (.string r) ∧ Below w.heap.size w w' := by
  unfold strconv_Itoa.f at h
  split at h
  · rename_i hc
    obtain rfl := Option.some.inj h
    exact Color.itoa24 n hc w w.heap.size hT.out (Nat.le_refl _)
  · cases h
def impl_TextStrip.f (s : ByteArray) : Option ByteArray := if s.size ≤ 35184372088832 then some ⟨(Strip.strip s).toArray⟩ else none
theorem impl_TextStrip.calls (s : ByteArray) (r : ByteArray) (w : World) (h : impl_TextStrip.f s = some r) :
    Calls Tryd.prog 18 #[.string s] w fun e w' => e = .returned (.string r) ∧ Below w.heap.size w w' := by
  unfold impl_TextStrip.f at h
  split at h
  · rename_i hc
    obtain rfl := Option.some.inj h
    have H := fun w => Aside0.mk (Strip.strip_walk s w hc)
    go_enter Tryd.func18, Tryd.ntmps18
    go_wp2_with (go_at_call 30; refine (H _).out.mono ?_; rintro e w' ⟨rfl, hb⟩)
    go_ret
    exact ⟨rfl, hb⟩
  · cases h
end Go.Proofs.YtkfkhafmgndgaaaRRDoor.Given
