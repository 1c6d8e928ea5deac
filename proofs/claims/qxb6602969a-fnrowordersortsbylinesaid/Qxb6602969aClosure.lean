/-
  THE WALK of the closure that RowOrder hands to slices.SortFunc: the difference of two lines; it reads alone.
-/
import Derived.Test.Qxb6602969aRows
import Derived.Test.Qxb6602969aMem
import Derived.WalkSpells
import Derived.WalkLawsBesides
import Derived.Deep.QuietTactic
import Derived.BigQuiet
namespace Go.Proofs.Qxb6602969a
open Go.RowKit

set_option maxHeartbeats 1000000 in
theorem closure33 (fb b o m lc x y : Nat) (p q : Int) (W : World) (h2 : W.cell? ⟨fb, 2, none⟩ = some (.slice (some ⟨b, o, none⟩) m lc)) (hx : x < m) (hy : y < m)
    (hcx : W.cell? ⟨b, o + x, none⟩ = some (.int .i64 p)) (hcy : W.cell? ⟨b, o + y, none⟩ = some (.int .i64 q)) (hp0 : 0 ≤ p) (hp1 : p ≤ 9223372036854775807) (hq0 : 0 ≤ q) (hq1 : q ≤ 9223372036854775807) :
    Calls Try.prog 33 #[.int .i64 (x : Int), .int .i64 (y : Int), .pointer (some ⟨fb, 0, none⟩)] W fun e w' => e = .returned (.int .i64 (p - q)) ∧ ∃ d, w' = W.drewN d := by
  have hxz : (x : Int) < (m : Int) := by omega
  have hyz : (y : Int) < (m : Int) := by omega
  go_enter Try.func33, Try.ntmps33
  go_wp2_with fail
  go_quiet (fail)
  go_wp2
  go_ret
  refine ⟨?_, _, rfl⟩
  rfl

end Go.Proofs.Qxb6602969a
