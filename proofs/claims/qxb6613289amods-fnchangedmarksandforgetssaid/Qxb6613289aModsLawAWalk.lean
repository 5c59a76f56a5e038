/- The walk of FnStateOfGivesEachNodeItsOwnState. -/
import Derived.Test.Qxb6613289aModsTrie
namespace Go.Proofs.Qxb6613289aMods
open Go.RowKit

theorem sh0 (w : World) : Sem.run Trym.prog (Op.shift BinOp.shl IntKind.u16 1 IntKind.u8 0) w = .ok (.int .u16 1) w := by kernel_rfl
theorem sh15 (w : World) : Sem.run Trym.prog (Op.shift BinOp.shl IntKind.u16 1 IntKind.u8 15) w = .ok (.int .u16 32768) w := by kernel_rfl

set_option maxHeartbeats 1000000 in
theorem lawA_walk (a0 a1 a2 a3 : Bool) (a4 : Int) (w : World) (_w4 : (Lit.int .u8 a4).wf = true) :
    Calls Trym.prog 3 #[.bool a0, .bool a1, .bool a2, .bool a3, .int .u8 a4] w fun e w' => e = .returned (.bool true) ∧ Below w.heap.size w w' := by
  go_enter Trym.func3, Trym.ntmps3
  go_wp2_with (refine wpList_build_is rfl 27 [] rfl [] rfl _ built27_zero ?_)
  refine (twoLeaf_any 0 15 _ _ sh0 sh15 _ _ _ _ _ _ _ _ zero33 zero33_length _ _ _).mono ?_
  rintro e w1 ⟨b0, b2, b1, b5, bb, rfl, T⟩
  go_wp2_with (refine wpList_build_is rfl 27 [] rfl [] rfl _ built27_zero ?_)
  refine (newExt_new _ _ _ _ zero33 zero33_length _ _ _).mono ?_
  rintro e w2 ⟨be, rfl, E1, E2, EB, EX⟩
  have EB' := ((Below.refl w1.heap.size w1).alloc (Nat.le_refl _) _).trans (EB.mono (by simp))
  have T4 := Trie4.ofTwo (N := w.heap.size) T EB' (by simp at E1; omega) (by simp) EX
  have hbel : Below w.heap.size w w2 := (((Below.refl w.heap.size w).alloc (Nat.le_refl _) _).trans (T.below.mono (by simp))).trans (EB'.mono (by have := T.below.size; simp at this; omega))
  clear T EB' EB E1 E2 EX
  go_wp2_with fail
  refine (stateOfExt_any _ _).mono ?_
  rintro e w3 ⟨rfl, rfl⟩
  go_wp2_with fail
  refine (stateOfBranch_any _ _).mono ?_
  rintro e w4 ⟨rfl, rfl⟩
  go_wp2_with fail
  refine (stateOfLeaf_any _ _).mono ?_
  rintro e w5 ⟨rfl, rfl⟩
  go_wp2_with fail
  refine (stateOfLeaf_any _ _).mono ?_
  rintro e w6 ⟨rfl, rfl⟩
  have n1 := T4.lt02
  have n2 := T4.lt21
  have n3 := T4.lt1b
  have n4 := T4.ltbe
  have q1 := eql30_other (o := 36) (o' := 37) T4.ex T4.br (by omega)
  have q2 := eql30_other (o := 36) (o' := 2) T4.ex T4.l0 (by omega)
  have q3 := eql30_other (o := 36) (o' := 2) T4.ex T4.l1 (by omega)
  have q4 := eql30_other (o := 37) (o' := 2) T4.br T4.l0 (by omega)
  have q5 := eql30_other (o := 37) (o' := 2) T4.br T4.l1 (by omega)
  have q6 := eql30_other (o := 2) (o' := 2) T4.l0 T4.l1 (by omega)
  clear n1 n2 n3 n4
  have cE := T4.cellE zero33_length
  have cB := T4.cellB zero33_length
  have c0 := T4.cell0
  have c1 := T4.cell1
  go_wp2_with (go_at_call 13; go_in)
  all_goals clear q1 q2 q3 q4 q5 q6 cE cB c0 c1
  · refine (changedExt_any be _ _ zero33 zero33_length 0 a0 _ T4.ex).mono ?_
    rintro e w7 ⟨rfl, ht, hx⟩
    have T5 := T4.changedE ht hx
    have hb5 := hbel.trans (ht.below (N := w.heap.size) (by have := T4.new; have := T4.lt02; have := T4.lt21; have := T4.lt1b; have := T4.ltbe; omega))
    have cE := T5.cellE zero33_length
    have cB := T5.cellB zero33_length
    have c0 := T5.cell0
    have c1 := T5.cell1
    clear ht hx T4 hbel
    go_wp2_with (go_at_call 13; go_in)
    go_ret
    exact ⟨rfl, hb5⟩
  · refine (changedBranch_any bb _ _ _ zero33 zero33_length 0 a1 _ T4.br).mono ?_
    rintro e w7 ⟨rfl, ht, hx⟩
    have T5 := T4.changedB ht hx
    have hb5 := hbel.trans (ht.below (N := w.heap.size) (by have := T4.new; have := T4.lt02; have := T4.lt21; have := T4.lt1b; have := T4.ltbe; omega))
    have cE := T5.cellE zero33_length
    have cB := T5.cellB zero33_length
    have c0 := T5.cell0
    have c1 := T5.cell1
    clear ht hx T4 hbel
    go_wp2_with (go_at_call 13; go_in)
    go_ret
    exact ⟨rfl, hb5⟩
  · refine (changedLeaf_block b0 _ _ a2 _ T4.l0).mono ?_
    rintro e w7 ⟨rfl, ht, hx⟩
    have T5 := T4.changed0 ht hx
    have hb5 := hbel.trans (ht.below (N := w.heap.size) (by have := T4.new; have := T4.lt02; have := T4.lt21; have := T4.lt1b; have := T4.ltbe; omega))
    have cE := T5.cellE zero33_length
    have cB := T5.cellB zero33_length
    have c0 := T5.cell0
    have c1 := T5.cell1
    clear ht hx T4 hbel
    go_wp2_with (go_at_call 13; go_in)
    go_ret
    exact ⟨rfl, hb5⟩
  · refine (changedLeaf_block b1 _ _ a3 _ T4.l1).mono ?_
    rintro e w7 ⟨rfl, ht, hx⟩
    have T5 := T4.changed1 ht hx
    have hb5 := hbel.trans (ht.below (N := w.heap.size) (by have := T4.new; have := T4.lt02; have := T4.lt21; have := T4.lt1b; have := T4.ltbe; omega))
    have cE := T5.cellE zero33_length
    have cB := T5.cellB zero33_length
    have c0 := T5.cell0
    have c1 := T5.cell1
    clear ht hx T4 hbel
    go_wp2_with (go_at_call 13; go_in)
    go_ret
    exact ⟨rfl, hb5⟩
end Go.Proofs.Qxb6613289aMods
