/- Contracts of stateOf, of the state's flag and of changed. -/
import Derived.Test.Qxb6613289aModsNodes
namespace Go.Proofs.Qxb6613289aMods
open Go.RowKit

theorem as28_22 (v : Value) (w : World) : (Instr.typeAssert (.iface 28 v) 68 22 true).run Trym.prog w = .ok (.tuple #[.pointer none, .bool false]) w := by kernel_rfl
theorem as28_28 (v : Value) (w : World) : (Instr.typeAssert (.iface 28 v) 68 28 true).run Trym.prog w = .ok (.tuple #[v, .bool true]) w := by kernel_rfl
theorem as22_22 (v : Value) (w : World) : (Instr.typeAssert (.iface 22 v) 68 22 true).run Trym.prog w = .ok (.tuple #[v, .bool true]) w := by kernel_rfl
theorem as23_22 (v : Value) (w : World) : (Instr.typeAssert (.iface 23 v) 68 22 true).run Trym.prog w = .ok (.tuple #[.pointer none, .bool false]) w := by kernel_rfl
theorem as23_28 (v : Value) (w : World) : (Instr.typeAssert (.iface 23 v) 68 28 true).run Trym.prog w = .ok (.tuple #[.pointer none, .bool false]) w := by kernel_rfl
theorem as23_23 (v : Value) (w : World) : (Instr.typeAssert (.iface 23 v) 68 23 true).run Trym.prog w = .ok (.tuple #[v, .bool true]) w := by kernel_rfl
theorem as49_22 (v : Value) (w : World) : (Instr.typeAssert (.iface 49 v) 68 22 true).run Trym.prog w = .ok (.tuple #[.pointer none, .bool false]) w := by kernel_rfl
theorem as49_28 (v : Value) (w : World) : (Instr.typeAssert (.iface 49 v) 68 28 true).run Trym.prog w = .ok (.tuple #[.pointer none, .bool false]) w := by kernel_rfl
theorem as49_23 (v : Value) (w : World) : (Instr.typeAssert (.iface 49 v) 68 23 true).run Trym.prog w = .ok (.tuple #[.pointer none, .bool false]) w := by kernel_rfl
theorem asNil_22 (w : World) : (Instr.typeAssert .nilIface 68 22 true).run Trym.prog w = .ok (.tuple #[.pointer none, .bool false]) w := by kernel_rfl
theorem asNil_28 (w : World) : (Instr.typeAssert .nilIface 68 28 true).run Trym.prog w = .ok (.tuple #[.pointer none, .bool false]) w := by kernel_rfl
theorem asNil_23 (w : World) : (Instr.typeAssert .nilIface 68 23 true).run Trym.prog w = .ok (.tuple #[.pointer none, .bool false]) w := by kernel_rfl
attribute [local go_sem] as28_22 as28_28 as22_22 as23_22 as23_28 as23_23 as49_22 as49_28 as49_23 asNil_22 asNil_28 asNil_23

theorem stateOfExt_any (b : Nat) (w : World) : Calls Trym.prog 10 #[.pointer (some ⟨b, 0, none⟩)] w fun e w' => e = .returned (.pointer (some ⟨b, 36, none⟩)) ∧ w' = w := by
  go_enter Trym.func10, Trym.ntmps10
  go_wp2
  go_ret
  exact ⟨rfl, rfl⟩

theorem stateOfBranch_any (b : Nat) (w : World) : Calls Trym.prog 11 #[.pointer (some ⟨b, 0, none⟩)] w fun e w' => e = .returned (.pointer (some ⟨b, 37, none⟩)) ∧ w' = w := by
  go_enter Trym.func11, Trym.ntmps11
  go_wp2
  go_ret
  exact ⟨rfl, rfl⟩

theorem stateOfLeaf_any (b : Nat) (w : World) : Calls Trym.prog 12 #[.pointer (some ⟨b, 0, none⟩)] w fun e w' => e = .returned (.pointer (some ⟨b, 2, none⟩)) ∧ w' = w := by
  go_enter Trym.func12, Trym.ntmps12
  go_wp2
  go_ret
  exact ⟨rfl, rfl⟩

theorem stateDirty_any (b o : Nat) (d : Bool) (w : World) (h : w.cell? ⟨b, o, none⟩ = some (.bool d)) : Calls Trym.prog 13 #[.pointer (some ⟨b, o, none⟩)] w fun e w' => e = .returned (.bool d) ∧ w' = w := by
  go_enter Trym.func13, Trym.ntmps13
  go_wp2
  go_ret
  exact ⟨rfl, rfl⟩

theorem changedLeaf_any (b : Nat) (u : Value) (w : World) (h : w.cell? ⟨b, 2, none⟩ = some u) (hf : w.frozen? ⟨b, 2, none⟩ = false) : Calls Trym.prog 16 #[.pointer (some ⟨b, 0, none⟩)] w fun e w' => e = .returned (.tuple #[]) ∧ w' = w.setCell ⟨b, 2, none⟩ (.bool true) := by
  go_enter Trym.func16, Trym.ntmps16
  go_wp2
  go_end0
  go_wp2
  go_end0
  exact ⟨rfl, rfl⟩

/-! ### a block that is written as a whole or in part; all else stands -/
/-- Of w' nothing but the block b has turned. -/
structure Turned (b : Nat) (w w' : World) : Prop where
  os : w'.os = w.os
  tape : w'.tape = w.tape
  output : w'.output = w.output
  size : w'.heap.size = w.heap.size
  other : ∀ k, k ≠ b → w'.heap[k]? = w.heap[k]?

theorem Turned.trans {b : Nat} {u v w : World} (h : Turned b u v) (k : Turned b v w) : Turned b u w :=
  ⟨k.os.trans h.os, k.tape.trans h.tape, k.output.trans h.output, k.size.trans h.size, fun i hi => (k.other i hi).trans (h.other i hi)⟩

theorem Turned.below {b N : Nat} {w w' : World} (h : Turned b w w') (hb : N ≤ b) : Below N w w' :=
  ⟨h.os, h.tape, h.output, by rw [h.size]; exact Nat.le_refl _, fun k hk => h.other k (by omega)⟩

theorem Turned.setCell (w : World) (b o : Nat) (v : Value) : Turned b w (w.setCell ⟨b, o, none⟩ v) :=
  ⟨rfl, rfl, rfl, by simp [World.setCell], fun k hk => Below.heap_setCell _ _ _ _ hk⟩

theorem Turned.setCells (b : Nat) : ∀ (vs : List Value) (o : Nat) (w : World), Turned b w (w.setCells b o vs)
  | [], _, _ => ⟨rfl, rfl, rfl, rfl, fun _ _ => rfl⟩
  | v :: r, o, w => by
    rw [World.setCells]
    exact (Turned.setCell w b o v).trans (Turned.setCells b r (o + 1) _)

theorem splice_step (l : List Value) (m : Nat) (x : Value) (c : List Value) (h : m + (c.length + 1) ≤ l.length) :
    (l.set m x).take (m + 1) ++ c ++ (l.set m x).drop (m + 1 + c.length) = l.take m ++ (x :: c) ++ l.drop (m + (x :: c).length) := by
  apply List.ext_getElem?
  intro i
  simp only [List.length_cons, List.getElem?_append, List.length_append, List.length_take, List.length_set, List.getElem?_take, List.getElem?_drop, List.getElem?_set, List.getElem?_cons]
  have m1 : min (m + 1) l.length = m + 1 := by omega
  have m2 : min m l.length = m := by omega
  rw [m1, m2]
  by_cases h1 : i < m
  · simp [h1, show i < m + 1 from by omega, show i < m + 1 + c.length from by omega, show i < m + (c.length + 1) from by omega]
    intro e; omega
  · by_cases h2 : i = m
    · subst h2
      simp [show i < l.length from by omega, show i < i + 1 + c.length from by omega, show i < i + (c.length + 1) from by omega]
    · by_cases h3 : i < m + (c.length + 1)
      · rw [if_pos (by omega), if_neg (by omega), if_pos h3, if_neg (by omega), if_neg (by omega)]
        congr 1
      · rw [if_neg (by omega), if_neg (by omega), if_neg (by omega)]
        congr 1; omega

theorem heap_setCells (b : Nat) (t : TypeId) : ∀ (vs : List Value) (o : Nat) (w : World) (l : List Value), w.heap[b]? = some (.cells l.toArray t (0, 0)) → o + vs.length ≤ l.length →
    (w.setCells b o vs).heap[b]? = some (.cells (l.take o ++ vs ++ l.drop (o + vs.length)).toArray t (0, 0))
  | [], o, w, l, h, _ => by simp [World.setCells, h]
  | v :: r, o, w, l, h, hl => by
    simp only [List.length_cons] at hl
    rw [World.setCells]
    have h' := heap_setCell_same w b o l.toArray t v h
    simp only [List.setIfInBounds_toArray] at h'
    rw [heap_setCells b t r (o + 1) _ (l.set o v) h' (by simp; omega), splice_step l o v r (by omega)]

/-- The 33 nought bytes of an empty ref. -/
def zero33 : List Value := List.replicate 33 (Value.int .u8 0)
theorem zero33_length : zero33.length = 33 := by simp [zero33]
theorem built65_zero : Trym.prog.built 65 [] = some (refCells zero33 0).toArray := by kernel_rfl

theorem built27_zero : Trym.prog.built 27 [] = some zero33.toArray := by kernel_rfl

theorem there_of_block {w : World} {b : Nat} {l : List Value} {t : TypeId} (h : w.heap[b]? = some (.cells l.toArray t (0, 0))) (o n : Nat) (hn : o + n ≤ l.length) : w.there b o n := fun j hj => by
  refine ⟨?_, frozen_of_row w b _ _ t h⟩
  rw [cell_of_row w b (o + j) _ t _ h]
  simp; omega

theorem refZero_length : (refCells zero33 0).length = 34 := refCells_length _ _ zero33_length

theorem extCells_state (p c : Value) (cs : List Value) (h : cs.length = 33) (n : Int) (d : Bool) : (extCells p c cs n d).toArray[36]? = some (.bool d) := by
  simp [extCells, refCells, h]
theorem extCells_set (p c : Value) (cs : List Value) (h : cs.length = 33) (n : Int) (d : Bool) : (extCells p c cs n d).set 36 (.bool true) = extCells p c cs n true := by
  simp [extCells, refCells, h]
theorem extCells_splice (p c : Value) (cs : List Value) (h : cs.length = 33) (n : Int) : (extCells p c cs n true).take 2 ++ refCells zero33 0 ++ (extCells p c cs n true).drop (2 + (refCells zero33 0).length) = extCells p c zero33 0 true := by
  rw [refZero_length]
  have hr := refCells_length cs n h
  unfold extCells
  generalize refCells cs n = r at hr
  simp [hr]
theorem extCells_length (p c : Value) (cs : List Value) (h : cs.length = 33) (n : Int) (d : Bool) : (extCells p c cs n d).length = 37 := by simp [extCells, refCells, h]

theorem brCells_state (p c v : Value) (cs : List Value) (h : cs.length = 33) (n : Int) (d : Bool) : (brCells p c v cs n d).toArray[37]? = some (.bool d) := by
  simp [brCells, refCells, h]
theorem brCells_set (p c v : Value) (cs : List Value) (h : cs.length = 33) (n : Int) (d : Bool) : (brCells p c v cs n d).set 37 (.bool true) = brCells p c v cs n true := by
  simp [brCells, refCells, h]
theorem brCells_splice (p c v : Value) (cs : List Value) (h : cs.length = 33) (n : Int) : (brCells p c v cs n true).take 3 ++ refCells zero33 0 ++ (brCells p c v cs n true).drop (3 + (refCells zero33 0).length) = brCells p c v zero33 0 true := by
  rw [refZero_length]
  have hr := refCells_length cs n h
  unfold brCells
  generalize refCells cs n = r at hr
  simp [hr]
theorem brCells_length (p c v : Value) (cs : List Value) (h : cs.length = 33) (n : Int) (d : Bool) : (brCells p c v cs n d).length = 38 := by simp [brCells, refCells, h]

theorem ext_set (b : Nat) (p c : Value) (cs : List Value) (hc : cs.length = 33) (n : Int) (d : Bool) (w : World) (h : w.heap[b]? = some (.cells (extCells p c cs n d).toArray 70)) :
    (w.setCell ⟨b, 36, none⟩ (.bool true)).heap[b]? = some (.cells (extCells p c cs n true).toArray 70 (0, 0)) := by
  rw [heap_setCell_same w b 36 _ 70 _ h, List.setIfInBounds_toArray, extCells_set p c cs hc n d]
theorem br_set (b : Nat) (p c v : Value) (cs : List Value) (hc : cs.length = 33) (n : Int) (d : Bool) (w : World) (h : w.heap[b]? = some (.cells (brCells p c v cs n d).toArray 81)) :
    (w.setCell ⟨b, 37, none⟩ (.bool true)).heap[b]? = some (.cells (brCells p c v cs n true).toArray 81 (0, 0)) := by
  rw [heap_setCell_same w b 37 _ 81 _ h, List.setIfInBounds_toArray, brCells_set p c v cs hc n d]

theorem ext_after (b : Nat) (p c : Value) (cs : List Value) (hc : cs.length = 33) (n : Int) (d : Bool) (w : World) (h : w.heap[b]? = some (.cells (extCells p c cs n d).toArray 70)) :
    Turned b w ((w.setCell ⟨b, 36, none⟩ (.bool true)).setCells b 2 (refCells zero33 0)) ∧ ((w.setCell ⟨b, 36, none⟩ (.bool true)).setCells b 2 (refCells zero33 0)).heap[b]? = some (.cells (extCells p c zero33 0 true).toArray 70) := by
  refine ⟨(Turned.setCell w b 36 _).trans (Turned.setCells b _ _ _), ?_⟩
  rw [heap_setCells b 70 _ 2 _ _ (ext_set b p c cs hc n d w h) (by rw [refZero_length, extCells_length p c cs hc]; omega), extCells_splice p c cs hc n]
theorem br_after (b : Nat) (p c v : Value) (cs : List Value) (hc : cs.length = 33) (n : Int) (d : Bool) (w : World) (h : w.heap[b]? = some (.cells (brCells p c v cs n d).toArray 81)) :
    Turned b w ((w.setCell ⟨b, 37, none⟩ (.bool true)).setCells b 3 (refCells zero33 0)) ∧ ((w.setCell ⟨b, 37, none⟩ (.bool true)).setCells b 3 (refCells zero33 0)).heap[b]? = some (.cells (brCells p c v zero33 0 true).toArray 81) := by
  refine ⟨(Turned.setCell w b 37 _).trans (Turned.setCells b _ _ _), ?_⟩
  rw [heap_setCells b 81 _ 3 _ _ (br_set b p c v cs hc n d w h) (by rw [refZero_length, brCells_length p c v cs hc]; omega), brCells_splice p c v cs hc n]

set_option maxHeartbeats 400000 in
theorem changedExt_any (b : Nat) (p c : Value) (cs : List Value) (hc : cs.length = 33) (n : Int) (d : Bool) (w : World) (h : w.heap[b]? = some (.cells (extCells p c cs n d).toArray 70)) :
    Calls Trym.prog 14 #[.pointer (some ⟨b, 0, none⟩)] w fun e w' => e = .returned (.tuple #[]) ∧ Turned b w w' ∧ w'.heap[b]? = some (.cells (extCells p c zero33 0 true).toArray 70) := by
  have g1 : w.cell? ⟨b, 36, none⟩ = some (.bool d) := by rw [cell_of_row w b 36 _ 70 _ h]; exact extCells_state p c cs hc n d
  have g2 : w.frozen? ⟨b, 36, none⟩ = false := frozen_of_row w b _ _ 70 h
  have HH : Hid (w.heap[b]? = some (.cells (extCells p c cs n d).toArray 70)) := h
  clear h
  go_enter Trym.func14, Trym.ntmps14
  go_wp2_with (first
    | (refine wpList_build_is rfl 65 [] rfl [] rfl _ built65_zero ?_)
    | (refine wpList_store_mid rfl 65 _ _ rfl b 2 (refCells zero33 0).toArray rfl rfl ?ht (by rw [Trym.info65]; simp [refCells, zero33_length]) (by kernel_rfl) ?_)
    | go_in)
  case ht => exact there_of_block (ext_set b p c cs hc n d w HH.out) 2 _ (by simp [extCells_length p c cs hc, refZero_length])
  go_end0
  go_wp2
  go_end0
  exact ⟨rfl, ext_after b p c cs hc n d w HH.out⟩

set_option maxHeartbeats 400000 in
theorem changedBranch_any (b : Nat) (p c v : Value) (cs : List Value) (hc : cs.length = 33) (n : Int) (d : Bool) (w : World) (h : w.heap[b]? = some (.cells (brCells p c v cs n d).toArray 81)) :
    Calls Trym.prog 15 #[.pointer (some ⟨b, 0, none⟩)] w fun e w' => e = .returned (.tuple #[]) ∧ Turned b w w' ∧ w'.heap[b]? = some (.cells (brCells p c v zero33 0 true).toArray 81) := by
  have g1 : w.cell? ⟨b, 37, none⟩ = some (.bool d) := by rw [cell_of_row w b 37 _ 81 _ h]; exact brCells_state p c v cs hc n d
  have g2 : w.frozen? ⟨b, 37, none⟩ = false := frozen_of_row w b _ _ 81 h
  have HH : Hid (w.heap[b]? = some (.cells (brCells p c v cs n d).toArray 81)) := h
  clear h
  go_enter Trym.func15, Trym.ntmps15
  go_wp2_with (first
    | (refine wpList_build_is rfl 65 [] rfl [] rfl _ built65_zero ?_)
    | (refine wpList_store_mid rfl 65 _ _ rfl b 3 (refCells zero33 0).toArray rfl rfl ?ht (by rw [Trym.info65]; simp [refCells, zero33_length]) (by kernel_rfl) ?_)
    | go_in)
  case ht => exact there_of_block (br_set b p c v cs hc n d w HH.out) 3 _ (by simp [brCells_length p c v cs hc, refZero_length])
  go_end0
  go_wp2
  go_end0
  exact ⟨rfl, br_after b p c v cs hc n d w HH.out⟩

/-- changed of a leaf, told by the leaf's whole block. -/
theorem changedLeaf_block (b : Nat) (p v : Value) (d : Bool) (w : World) (h : w.heap[b]? = some (.cells #[p, v, .bool d] 78)) :
    Calls Trym.prog 16 #[.pointer (some ⟨b, 0, none⟩)] w fun e w' => e = .returned (.tuple #[]) ∧ Turned b w w' ∧ w'.heap[b]? = some (.cells #[p, v, .bool true] 78) := by
  refine (changedLeaf_any b (.bool d) w (by rw [cell_of_row w b 2 _ 78 _ h]; rfl) (frozen_of_row w b _ _ 78 h)).mono ?_
  rintro e w' ⟨rfl, rfl⟩
  exact ⟨rfl, Turned.setCell w b 2 _, by rw [heap_setCell_same w b 2 _ 78 _ h]; rfl⟩
end Go.Proofs.Qxb6613289aMods
