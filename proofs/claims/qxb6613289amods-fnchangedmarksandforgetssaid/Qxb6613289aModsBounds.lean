/- The bounds on lengths that are laid ahead of each law: whatever they answer, nothing old is written. -/
import Derived.Test.Qxb6613289aModsTrie
namespace Go.Proofs.Qxb6613289aMods
open Go.RowKit

set_option maxHeartbeats 400000 in
theorem zz32_any (a0 a6 a8 : Int) (d1 d2 d3 d4 : Bool) (c5 c7 : Array Value) (pa va : Option Addr) (pn pc vn vc : Nat) (hp : pn ≤ maxLen) (hv : vn ≤ maxLen) (w : World) :
    Calls Trym.prog 32 #[.int .u8 a0, .bool d1, .bool d2, .bool d3, .bool d4, .agg c5, .int .u8 a6, .agg c7, .int .u8 a8, .slice pa pn pc, .slice va vn vc] w fun e w' => ∃ r : Bool, e = .returned (.bool r) ∧ Below w.heap.size w w' := by
  unfold maxLen at hp hv
  have hb : Below w.heap.size w ((w.alloc (.cells c5 27)).alloc (.cells c7 27)) := ((Below.refl _ w).alloc (Nat.le_refl _) _).alloc (by simp) _
  go_enter Trym.func32, Trym.ntmps32
  go_wp2
  all_goals
    go_ret
    exact ⟨_, rfl, hb⟩

set_option maxHeartbeats 400000 in
theorem zz26_any (a0 a4 a6 a7 : Int) (d5 : Bool) (c3 : Array Value) (pa va : Option Addr) (pn pc vn vc : Nat) (hp : pn ≤ maxLen) (hv : vn ≤ maxLen) (w : World) :
    Calls Trym.prog 26 #[.int .u8 a0, .slice pa pn pc, .slice va vn vc, .agg c3, .int .u8 a4, .bool d5, .int .u8 a6, .int .u8 a7] w fun e w' => ∃ r : Bool, e = .returned (.bool r) ∧ Below w.heap.size w w' := by
  unfold maxLen at hp hv
  have hb : Below w.heap.size w (w.alloc (.cells c3 27)) := (Below.refl _ w).alloc (Nat.le_refl _) _
  go_enter Trym.func26, Trym.ntmps26
  go_wp2
  all_goals
    go_ret
    exact ⟨_, rfl, hb⟩

set_option maxHeartbeats 400000 in
theorem zz19_any (a0 a4 : Int) (d5 : Bool) (c3 c6 : Array Value) (pa va : Option Addr) (pn pc vn vc : Nat) (hp : pn ≤ maxLen) (hv : vn ≤ maxLen) (w : World) :
    Calls Trym.prog 19 #[.int .u8 a0, .slice pa pn pc, .slice va vn vc, .agg c3, .int .u8 a4, .bool d5, .agg c6] w fun e w' => ∃ r : Bool, e = .returned (.bool r) ∧ Below w.heap.size w w' := by
  unfold maxLen at hp hv
  have hb : Below w.heap.size w ((w.alloc (.cells c3 27)).alloc (.cells c6 43)) := ((Below.refl _ w).alloc (Nat.le_refl _) _).alloc (by simp) _
  go_enter Trym.func19, Trym.ntmps19
  go_wp2
  all_goals
    go_ret
    exact ⟨_, rfl, hb⟩
end Go.Proofs.Qxb6613289aMods
