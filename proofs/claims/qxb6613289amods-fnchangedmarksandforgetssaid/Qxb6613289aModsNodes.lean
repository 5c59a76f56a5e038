/- Contracts of the node constructors, of stateOf and changed. -/
import Derived.Test.Qxb6613289aModsFill
import Derived.ProofKit
import Derived.Deep.MidRow
import Derived.Deep.WholeRow
import Derived.Outline
namespace Go.Proofs.Qxb6613289aMods
open Go.RowKit

theorem Trym.info27 : (Trym.prog.info? 27).map (·.size) = some 33 := by kernel_rfl
theorem Trym.info65 : (Trym.prog.info? 65).map (·.size) = some 34 := by kernel_rfl

theorem newLeaf_any (pa va : Option Addr) (pn pc vn vc : Nat) (d : Bool) (w : World) :
    Calls Trym.prog 21 #[.slice pa pn pc, .slice va vn vc, .bool d] w fun e w' => e = .returned (.pointer (some ⟨w.heap.size, 0, none⟩)) ∧ w' = w.alloc (.cells #[.slice pa pn pc, .slice va vn vc, .bool d] 78) := by
  go_enter Trym.func21, Trym.ntmps21
  go_wp2
  go_ret
  exact ⟨rfl, rfl⟩

set_option maxHeartbeats 400000 in
theorem newExt_any (pa : Option Addr) (pn pc : Nat) (c : Value) (cs : List Value) (h : cs.length = 33) (n : Int) (d : Bool) (w : World) :
    Calls Trym.prog 9 #[.slice pa pn pc, c, .agg cs.toArray, .int .u8 n, .bool d] w fun e w' => e = .returned (.pointer (some ⟨w.heap.size + 1, 0, none⟩)) ∧
      w' = (w.alloc (.cells cs.toArray 27)).alloc (.cells (extCells (.slice pa pn pc) (.iface 22 c) cs n d).toArray 70) := by
  go_enter Trym.func9, Trym.ntmps9
  go_wp2_with (first
    | (refine wpList_load_row rfl 27 _ rfl w.heap.size rfl 27 cs.toArray (0, 0) (.array 33 5) (heap_alloc_last w _) Trym.underlying27 rfl (by rw [Trym.info27]; simp [h]) ?_)
    | (refine wpList_build_is rfl 65 _ rfl [(0, .agg cs.toArray), (1, .int .u8 n)] rfl _ (built65 cs h n) ?_)
    | (refine wpList_build_is rfl 70 _ rfl [(0, .slice pa pn pc), (1, .iface 22 c), (2, .agg (refCells cs n).toArray), (3, .agg #[.bool d])] rfl _ (built70 pa pn pc 22 c cs n h d) ?_))
  go_ret
  exact ⟨rfl, rfl⟩

theorem heap_alloc3_new (w : World) (A B C : Obj) : (((w.alloc A).alloc B).alloc C).heap[w.heap.size + 2]? = some C := by
  have h := heap_alloc_new ((w.alloc A).alloc B) C
  have e : ((w.alloc A).alloc B).heap.size = w.heap.size + 2 := by simp
  rwa [e] at h

set_option maxHeartbeats 400000 in
theorem newBranch_any (p0 p1 : Value) (m : Int) (va : Option Addr) (vn vc : Nat) (cs : List Value) (h : cs.length = 33) (n : Int) (d : Bool) (w : World) :
    Calls Trym.prog 34 #[p0, p1, .int .u16 m, .slice va vn vc, .agg cs.toArray, .int .u8 n, .bool d] w fun e w' => e = .returned (.pointer (some ⟨w.heap.size + 2, 0, none⟩)) ∧
      w' = ((w.alloc (.cells cs.toArray 27)).alloc (.cells #[.iface 23 p0, .iface 23 p1] 68)).alloc (.cells (brCells (.slice (some ⟨w.heap.size + 1, 0, none⟩) 2 2) (.int .u16 m) (.slice va vn vc) cs n d).toArray 81) := by
  go_enter Trym.func34, Trym.ntmps34
  go_wp2_with (first
    | (refine wpList_load_row rfl 27 _ rfl w.heap.size rfl 27 cs.toArray (0, 0) (.array 33 5) (heap_alloc2_old w _ _) Trym.underlying27 rfl (by rw [Trym.info27]; simp [h]) ?_)
    | (refine wpList_build_is rfl 65 _ rfl [(0, .agg cs.toArray), (1, .int .u8 n)] rfl _ (built65 cs h n) ?_)
    | (refine wpList_build_is rfl 81 _ rfl [(0, .slice (some ⟨w.heap.size + 1, 0, none⟩) 2 2), (1, .int .u16 m), (2, .slice va vn vc), (3, .agg (refCells cs n).toArray), (4, .agg #[.bool d])] rfl _ (built81 _ 2 2 m va vn vc cs n h d) ?_))
  go_ret
  exact ⟨rfl, rfl⟩

theorem heap_alloc4_old (w : World) (A B C D : Obj) : ((((w.alloc A).alloc B).alloc C).alloc D).heap[w.heap.size]? = some A := by
  rw [Below.heap_alloc _ D _ (by simp; omega), Below.heap_alloc _ C _ (by simp; omega), Below.heap_alloc _ B _ (by simp)]
  exact heap_alloc_new w A

/-- WHAT twoLeafBranch LEAVES: the branch at bb, its two leaves at b0 and b1, the second leaf's one byte at b2, all new. -/
structure TwoLeaf (w w' : World) (b0 b2 b1 b5 bb : Nat) (v0 : Value) (d0 d1 : Bool) (m : Int) (v : Value) (cs : List Value) (n : Int) (d : Bool) : Prop where
  new : w.heap.size ≤ b0
  lt02 : b0 < b2
  lt21 : b2 < b1
  lt1b : b1 < bb
  ltb : bb < w'.heap.size
  below : Below w.heap.size w w'
  l0 : w'.heap[b0]? = some (.cells #[.slice none 0 0, v0, .bool d0] 78)
  two : w'.heap[b2]? = some (.cells #[.int .u8 2] 5)
  l1 : w'.heap[b1]? = some (.cells #[.slice none 0 0, .slice (some ⟨b2, 0, none⟩) 1 1, .bool d1] 78)
  br : w'.heap[bb]? = some (.cells (brCells (.slice (some ⟨b5, 0, none⟩) 2 2) (.int .u16 m) v cs n d).toArray 81)

theorem twoLeaf_mk (w : World) (A B C D E F G : Obj) : ∃ w', w' = (((((((w.alloc A).alloc B).alloc C).alloc D).alloc E).alloc F).alloc G) ∧ w'.heap.size = w.heap.size + 7 ∧ Below w.heap.size w w' ∧
    w'.heap[w.heap.size + 1]? = some B ∧ w'.heap[w.heap.size + 2]? = some C ∧ w'.heap[w.heap.size + 3]? = some D ∧ w'.heap[w.heap.size + 6]? = some G := by
  refine ⟨_, rfl, by simp, ?_, ?_, ?_, ?_, ?_⟩
  · exact (((((((Below.refl _ w).alloc (by simp) _).alloc (by simp) _).alloc (by simp; omega) _).alloc (by simp; omega) _).alloc (by simp; omega) _).alloc (by simp; omega) _).alloc (by simp; omega) _
  all_goals
    show (((((((w.heap.push A).push B).push C).push D).push E).push F).push G)[_]? = _
    simp only [Array.getElem?_push, Array.size_push]
  · rw [if_neg (by omega), if_neg (by omega), if_neg (by omega), if_neg (by omega), if_neg (by omega), if_pos trivial]
  · rw [if_neg (by omega), if_neg (by omega), if_neg (by omega), if_neg (by omega), if_pos trivial]
  · rw [if_neg (by omega), if_neg (by omega), if_neg (by omega), if_pos trivial]
  · rw [if_pos trivial]

set_option maxHeartbeats 400000 in
theorem twoLeaf_any (n0 n1 s0 s1 : Int) (hs0 : ∀ w, Sem.run Trym.prog (Op.shift BinOp.shl IntKind.u16 1 IntKind.u8 n0) w = .ok (.int .u16 s0) w) (hs1 : ∀ w, Sem.run Trym.prog (Op.shift BinOp.shl IntKind.u16 1 IntKind.u8 n1) w = .ok (.int .u16 s1) w)
    (v0a : Option Addr) (v0n v0c : Nat) (d0 d1 : Bool) (va : Option Addr) (vn vc : Nat) (cs : List Value) (h : cs.length = 33) (n : Int) (d : Bool) (w : World) :
    Calls Trym.prog 8 #[.int .u8 n0, .int .u8 n1, .slice v0a v0n v0c, .bool d0, .bool d1, .slice va vn vc, .agg cs.toArray, .int .u8 n, .bool d] w fun e w' =>
      ∃ b0 b2 b1 b5 bb : Nat, e = .returned (.tuple #[.pointer (some ⟨bb, 0, none⟩), .pointer (some ⟨b0, 0, none⟩), .pointer (some ⟨b1, 0, none⟩)]) ∧
      TwoLeaf w w' b0 b2 b1 b5 bb (.slice v0a v0n v0c) d0 d1 (bits BinOp.or IntKind.u16 s0 s1) (.slice va vn vc) cs n d := by
  go_enter Trym.func8, Trym.ntmps8
  go_wp2_with fail
  refine (newLeaf_any _ _ _ _ _ _ _ _).mono ?_
  rintro e w1 ⟨rfl, rfl⟩
  go_wp2_with fail
  refine (newLeaf_any _ _ _ _ _ _ _ _).mono ?_
  rintro e w1 ⟨rfl, rfl⟩
  go_wp2_with (refine wpList_load_row rfl 27 _ rfl w.heap.size rfl 27 cs.toArray (0, 0) (.array 33 5) (heap_alloc4_old w _ _ _ _) Trym.underlying27 rfl (by rw [Trym.info27]; simp [h]) ?_)
  refine (newBranch_any _ _ _ _ _ _ cs h _ _ _).mono ?_
  rintro e w1 ⟨rfl, rfl⟩
  go_wp2
  go_ret3
  obtain ⟨w', hw, h1, h2, h3, h4, h5, h6⟩ := twoLeaf_mk w (.cells cs.toArray 27) (.cells #[.slice none 0 0, .slice v0a v0n v0c, .bool d0] 78) (.cells #[.int .u8 2] 5)
    (.cells #[.slice none 0 0, .slice (some ⟨w.heap.size + 2, 0, none⟩) 1 1, .bool d1] 78) (.cells cs.toArray 27) (.cells #[.iface 23 (.pointer (some ⟨w.heap.size + 1, 0, none⟩)), .iface 23 (.pointer (some ⟨w.heap.size + 3, 0, none⟩))] 68)
    (.cells (brCells (.slice (some ⟨w.heap.size + 5, 0, none⟩) 2 2) (.int .u16 (bits BinOp.or IntKind.u16 s0 s1)) (.slice va vn vc) cs n d).toArray 81)
  refine ⟨w.heap.size + 1, w.heap.size + 2, w.heap.size + 3, w.heap.size + 5, w.heap.size + 6, by simp, ?_⟩
  subst hw
  exact ⟨by omega, by omega, by omega, by omega, by simp, h2, h3, h4, h5, h6⟩

/-- newExt_any, told by what it leaves. -/
theorem newExt_new (pa : Option Addr) (pn pc : Nat) (c : Value) (cs : List Value) (h : cs.length = 33) (n : Int) (d : Bool) (w : World) :
    Calls Trym.prog 9 #[.slice pa pn pc, c, .agg cs.toArray, .int .u8 n, .bool d] w fun e w' => ∃ be : Nat, e = .returned (.pointer (some ⟨be, 0, none⟩)) ∧ w.heap.size ≤ be ∧ be < w'.heap.size ∧ Below w.heap.size w w' ∧
      w'.heap[be]? = some (.cells (extCells (.slice pa pn pc) (.iface 22 c) cs n d).toArray 70) := by
  refine (newExt_any pa pn pc c cs h n d w).mono ?_
  rintro e w' ⟨rfl, rfl⟩
  exact ⟨_, rfl, by omega, by simp, ((Below.refl _ w).alloc (Nat.le_refl _) _).alloc (by simp) _, heap_alloc2_new w _ _⟩

/-- newLeaf_any, told by what it leaves. -/
theorem newLeaf_new (pa va : Option Addr) (pn pc vn vc : Nat) (d : Bool) (w : World) :
    Calls Trym.prog 21 #[.slice pa pn pc, .slice va vn vc, .bool d] w fun e w' => ∃ bl : Nat, e = .returned (.pointer (some ⟨bl, 0, none⟩)) ∧ w.heap.size ≤ bl ∧ bl < w'.heap.size ∧ Below w.heap.size w w' ∧
      w'.heap[bl]? = some (.cells #[.slice pa pn pc, .slice va vn vc, .bool d] 78) := by
  refine (newLeaf_any pa va pn pc vn vc d w).mono ?_
  rintro e w' ⟨rfl, rfl⟩
  exact ⟨_, rfl, by omega, by simp, (Below.refl _ w).alloc (Nat.le_refl _) _, heap_alloc_new w _⟩

end Go.Proofs.Qxb6613289aMods
