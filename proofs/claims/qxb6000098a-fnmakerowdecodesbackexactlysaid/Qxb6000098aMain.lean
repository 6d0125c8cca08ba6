import Derived.Test.Qxb6000098aZz
import Derived.Test.Qxb6000098aLaw
namespace Go.Proofs.Qxb6000098a
open Go.RowKit

/-- The first k kinds are KindInt or KindText. -/
def KindsOk (ks : List Int) (k : Nat) : Prop := ∀ j, j < k → ks.getD j 0 = 1 ∨ ks.getD j 0 = 2

def Done (w : World) (e : Ending) (w' : World) : Prop := e = .returned (.bool true) ∧ Below w.heap.size w w'

set_option maxRecDepth 20000 in
set_option maxHeartbeats 1000000 in
/-- Where the lengths are not one. -/
theorem main_ne (key : ByteArray) (a1 a2 a3 : Option Addr) (c1 c2 c3 l1 l2 : Nat) (ss : List ByteArray) (w : World)
    (h0 : key.size ≤ maxLen) (h1 : l1 ≤ maxLen) (h2 : l2 ≤ maxLen) (h3 : ss.length ≤ maxLen) (hs : ∀ s ∈ ss, s.size ≤ maxLen)
    (r3 : StrsAt w a3 ss) (hne : ¬ (l2 = l1 ∧ ss.length = l1)) :
    Calls Try.prog 7 #[.string key, .slice a1 l1 c1, .slice a2 l2 c2, .slice a3 ss.length c3] w fun e w' => Done w e w' := by
  have B := bytes_any key a1 a2 a3 l1 c1 l2 c2 c3 ss w h0 h1 h2 h3 hs r3
  go_enter Try.func7, Try.ntmps7
  go_wp2_with fail
  refine B.mono ?_
  rintro e w' ⟨r, rfl, hw, hfit⟩
  rw [hw]
  clear hw w' B
  cases r
  · go_wp2
    go_ret
    exact ⟨rfl, Below.refl _ _⟩
  · have hfit := hfit rfl
    have F := fits_any key a1 a2 a3 l1 c1 l2 c2 c3 ss w hfit hs r3
    go_wp2_with fail
    refine F.mono ?_
    rintro e w' ⟨r, rfl, hw, _⟩
    rw [hw]
    clear hw w' F
    cases r
    · go_wp2
      go_ret
      exact ⟨rfl, Below.refl _ _⟩
    · by_cases e1 : l2 = l1
      · have e2 : ((ss.length : Int) == (l1 : Int)) = false := by
          simp only [beq_eq_false_iff_ne]; omega
        have e1' : ((l2 : Int) == (l1 : Int)) = true := by simp [e1]
        clear hne hfit e1
        go_wp2
        all_goals
          go_ret
          exact ⟨rfl, Below.refl _ _⟩
      · have e1' : ((l2 : Int) == (l1 : Int)) = false := by
          simp only [beq_eq_false_iff_ne]; omega
        clear hne hfit e1
        go_wp2
        all_goals
          go_ret
          exact ⟨rfl, Below.refl _ _⟩
end Go.Proofs.Qxb6000098a
