import Derived.Test.Qxb6600099aOut
namespace Go.Proofs.Qxb6600099a
open Go.RowKit

/-- What the walk says at the end. -/
def Fine (w : World) (e : Ending) (w' : World) : Prop := e = .returned (.bool true) ∧ Below w.heap.size w w'

set_option maxHeartbeats 4000000 in
set_option maxRecDepth 100000 in
theorem early (a0 : Option Addr) (l0 c0 : Nat) (at' line col flows ind : Int) (a6 : Option Addr) (l6 c6 : Nat) (ka kp : Bool) (kl kc : Int) (w : World) (hl0 : l0 ≤ 9223372036854775807) (hl6 : l6 ≤ 9223372036854775807)
    (hb : 1048576 < l0 ∨ 65536 < l6 ∨ 1048576 < l0 + 8 * l6 ∨ at' < 0 ∨ (l0 : Int) ≤ at' ∨ col < 0 ∨ 1073741824 < col ∨ kc < -1073741824 ∨ 1073741824 < kc) :
    Calls Try.prog 9 #[.slice a0 l0 c0, .int .i64 at', .int .i64 line, .int .i64 col, .int .i64 flows, .int .i64 ind, .slice a6 l6 c6, .bool ka, .bool kp, .int .i64 kl, .int .i64 kc] w (Fine w) := by
  have H23 := zzBytes_any a0 l0 c0 at' line col flows ind a6 l6 c6 ka kp kl kc w hl0 hl6
  have hc : 1048576 < l0 ∨ (l0 ≤ 1048576 ∧ 65536 < l6) ∨ (l0 ≤ 1048576 ∧ l6 ≤ 65536 ∧ 1048576 < l0 + 8 * l6) ∨
      ((l0 ≤ 1048576 ∧ l6 ≤ 65536 ∧ l0 + 8 * l6 ≤ 1048576) ∧ (at' < 0 ∨ (0 ≤ at' ∧ (l0 : Int) ≤ at') ∨ ((0 ≤ at' ∧ at' < (l0 : Int)) ∧ (col < 0 ∨ (0 ≤ col ∧ 1073741824 < col) ∨ (0 ≤ col ∧ col ≤ 1073741824 ∧ kc < -1073741824) ∨ (0 ≤ col ∧ col ≤ 1073741824 ∧ -1073741824 ≤ kc ∧ 1073741824 < kc))))) := by omega
  clear hb
  rcases hc with q | q | q | ⟨q1, q | q | ⟨q2, q | q | q | q⟩⟩
  all_goals
    go_enter Try.func9, Try.ntmps9
    go_wp2_with (go_at_call 23; refine H23.mono ?_; rintro e w' ⟨⟨b, rfl⟩, rfl⟩; cases b)
  all_goals
    go_ret
    exact ⟨rfl, Below.refl _ _⟩
end Go.Proofs.Qxb6600099a
