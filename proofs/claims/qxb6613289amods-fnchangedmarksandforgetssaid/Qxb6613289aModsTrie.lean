/- An extension over a branch over two leaves, all of the call's own making: what holds of the four blocks, and what 'changed' does to them. -/
import Derived.Test.Qxb6613289aModsState
import Derived.LaidEqlPtr
namespace Go.Proofs.Qxb6613289aMods
open Go.RowKit

/-- The four nodes as they lie in w, from block N on. -/
structure Trie4 (N : Nat) (w : World) (b0 b2 b1 b5 bb be : Nat) (v0 : Value) (d0 d1 : Bool) (m : Int) (v : Value) (cB : List Value) (nB : Int) (dB : Bool) (pE : Value) (cE : List Value) (nE : Int) (dE : Bool) : Prop where
  new : N ≤ b0
  lt02 : b0 < b2
  lt21 : b2 < b1
  lt1b : b1 < bb
  ltbe : bb < be
  l0 : w.heap[b0]? = some (.cells #[.slice none 0 0, v0, .bool d0] 78)
  two : w.heap[b2]? = some (.cells #[.int .u8 2] 5)
  l1 : w.heap[b1]? = some (.cells #[.slice none 0 0, .slice (some ⟨b2, 0, none⟩) 1 1, .bool d1] 78)
  br : w.heap[bb]? = some (.cells (brCells (.slice (some ⟨b5, 0, none⟩) 2 2) (.int .u16 m) v cB nB dB).toArray 81)
  ex : w.heap[be]? = some (.cells (extCells pE (.iface 22 (.pointer (some ⟨bb, 0, none⟩))) cE nE dE).toArray 70)

section
variable {N : Nat} {w w' : World} {b0 b2 b1 b5 bb be : Nat} {v0 : Value} {d0 d1 : Bool} {m : Int} {v : Value} {cB : List Value} {nB : Int} {dB : Bool} {pE : Value} {cE : List Value} {nE : Int} {dE : Bool}

theorem Trie4.ofTwo {u : World} (T : TwoLeaf u w b0 b2 b1 b5 bb v0 d0 d1 m v cB nB dB) (hB : Below w.heap.size w w') (hbe : w.heap.size ≤ be) (hN : N ≤ u.heap.size)
    (hx : w'.heap[be]? = some (.cells (extCells pE (.iface 22 (.pointer (some ⟨bb, 0, none⟩))) cE nE dE).toArray 70)) : Trie4 N w' b0 b2 b1 b5 bb be v0 d0 d1 m v cB nB dB pE cE nE dE := by
  have h1 := T.new
  have h2 := T.lt02
  have h3 := T.lt21
  have h4 := T.lt1b
  have h5 := T.ltb
  exact ⟨by omega, h2, h3, h4, by omega, by rw [hB.block b0 (by omega)]; exact T.l0, by rw [hB.block b2 (by omega)]; exact T.two, by rw [hB.block b1 (by omega)]; exact T.l1, by rw [hB.block bb (by omega)]; exact T.br, hx⟩

/-- Every cell of the four nodes stands where the world has but grown. -/
theorem Trie4.grown (T : Trie4 N w b0 b2 b1 b5 bb be v0 d0 d1 m v cB nB dB pE cE nE dE) (hB : Below w.heap.size w w') : Trie4 N w' b0 b2 b1 b5 bb be v0 d0 d1 m v cB nB dB pE cE nE dE := by
  have lt : ∀ {k : Nat} {o : Obj}, w.heap[k]? = some o → k < w.heap.size := fun h => (Array.getElem?_eq_some_iff.1 h).1
  exact ⟨T.new, T.lt02, T.lt21, T.lt1b, T.ltbe, by rw [hB.block b0 (lt T.l0)]; exact T.l0, by rw [hB.block b2 (lt T.two)]; exact T.two, by rw [hB.block b1 (lt T.l1)]; exact T.l1, by rw [hB.block bb (lt T.br)]; exact T.br, by rw [hB.block be (lt T.ex)]; exact T.ex⟩

theorem Trie4.changedE (T : Trie4 N w b0 b2 b1 b5 bb be v0 d0 d1 m v cB nB dB pE cE nE dE) (ht : Turned be w w')
    (hx : w'.heap[be]? = some (.cells (extCells pE (.iface 22 (.pointer (some ⟨bb, 0, none⟩))) zero33 0 true).toArray 70)) : Trie4 N w' b0 b2 b1 b5 bb be v0 d0 d1 m v cB nB dB pE zero33 0 true := by
  have h2 := T.lt02
  have h3 := T.lt21
  have h4 := T.lt1b
  have h5 := T.ltbe
  exact ⟨T.new, h2, h3, h4, h5, by rw [ht.other b0 (by omega)]; exact T.l0, by rw [ht.other b2 (by omega)]; exact T.two, by rw [ht.other b1 (by omega)]; exact T.l1, by rw [ht.other bb (by omega)]; exact T.br, hx⟩

theorem Trie4.changedB (T : Trie4 N w b0 b2 b1 b5 bb be v0 d0 d1 m v cB nB dB pE cE nE dE) (ht : Turned bb w w')
    (hx : w'.heap[bb]? = some (.cells (brCells (.slice (some ⟨b5, 0, none⟩) 2 2) (.int .u16 m) v zero33 0 true).toArray 81)) : Trie4 N w' b0 b2 b1 b5 bb be v0 d0 d1 m v zero33 0 true pE cE nE dE := by
  have h2 := T.lt02
  have h3 := T.lt21
  have h4 := T.lt1b
  have h5 := T.ltbe
  exact ⟨T.new, h2, h3, h4, h5, by rw [ht.other b0 (by omega)]; exact T.l0, by rw [ht.other b2 (by omega)]; exact T.two, by rw [ht.other b1 (by omega)]; exact T.l1, hx, by rw [ht.other be (by omega)]; exact T.ex⟩

theorem Trie4.changed0 (T : Trie4 N w b0 b2 b1 b5 bb be v0 d0 d1 m v cB nB dB pE cE nE dE) (ht : Turned b0 w w')
    (hx : w'.heap[b0]? = some (.cells #[.slice none 0 0, v0, .bool true] 78)) : Trie4 N w' b0 b2 b1 b5 bb be v0 true d1 m v cB nB dB pE cE nE dE := by
  have h2 := T.lt02
  have h3 := T.lt21
  have h4 := T.lt1b
  have h5 := T.ltbe
  exact ⟨T.new, h2, h3, h4, h5, hx, by rw [ht.other b2 (by omega)]; exact T.two, by rw [ht.other b1 (by omega)]; exact T.l1, by rw [ht.other bb (by omega)]; exact T.br, by rw [ht.other be (by omega)]; exact T.ex⟩

theorem Trie4.changed1 (T : Trie4 N w b0 b2 b1 b5 bb be v0 d0 d1 m v cB nB dB pE cE nE dE) (ht : Turned b1 w w')
    (hx : w'.heap[b1]? = some (.cells #[.slice none 0 0, .slice (some ⟨b2, 0, none⟩) 1 1, .bool true] 78)) : Trie4 N w' b0 b2 b1 b5 bb be v0 d0 true m v cB nB dB pE cE nE dE := by
  have h2 := T.lt02
  have h3 := T.lt21
  have h4 := T.lt1b
  have h5 := T.ltbe
  exact ⟨T.new, h2, h3, h4, h5, by rw [ht.other b0 (by omega)]; exact T.l0, by rw [ht.other b2 (by omega)]; exact T.two, hx, by rw [ht.other bb (by omega)]; exact T.br, by rw [ht.other be (by omega)]; exact T.ex⟩

theorem Trie4.cellE (T : Trie4 N w b0 b2 b1 b5 bb be v0 d0 d1 m v cB nB dB pE cE nE dE) (h : cE.length = 33) : w.cell? ⟨be, 36, none⟩ = some (.bool dE) := by
  rw [cell_of_row w be 36 _ 70 _ T.ex]; exact extCells_state _ _ _ h _ _
theorem Trie4.cellB (T : Trie4 N w b0 b2 b1 b5 bb be v0 d0 d1 m v cB nB dB pE cE nE dE) (h : cB.length = 33) : w.cell? ⟨bb, 37, none⟩ = some (.bool dB) := by
  rw [cell_of_row w bb 37 _ 81 _ T.br]; exact brCells_state _ _ _ _ h _ _
theorem Trie4.cell0 (T : Trie4 N w b0 b2 b1 b5 bb be v0 d0 d1 m v cB nB dB pE cE nE dE) : w.cell? ⟨b0, 2, none⟩ = some (.bool d0) := by
  rw [cell_of_row w b0 2 _ 78 _ T.l0]; rfl
theorem Trie4.cell1 (T : Trie4 N w b0 b2 b1 b5 bb be v0 d0 d1 m v cB nB dB pE cE nE dE) : w.cell? ⟨b1, 2, none⟩ = some (.bool d1) := by
  rw [cell_of_row w b1 2 _ 78 _ T.l1]; rfl
end

theorem info67_one : ∃ j, Trym.prog.info? 67 = some j ∧ j.size ≠ 0 := by
  have h : (Trym.prog.info? 67).map (·.size) = some 1 := by kernel_rfl
  cases hq : Trym.prog.info? 67 with
  | none => simp [hq] at h
  | some j => exact ⟨j, rfl, by simp [hq] at h; omega⟩

theorem eql30_same (a : Addr) (w : World) : Sem.run Trym.prog (binOp .eql 30 (.pointer (some a)) (.pointer (some a))) w = .ok (.bool true) w := by
  obtain ⟨j, hj, _⟩ := info67_one
  exact run_eql_ptr_same w a Trym.underlying30 hj

theorem eql30_other {w : World} {b o b' o' : Nat} {C C' : Array Value} {t t' : TypeId} (hb : w.heap[b]? = some (.cells C t)) (hb' : w.heap[b']? = some (.cells C' t')) (hne : b ≠ b') :
    Sem.run Trym.prog (binOp .eql 30 (.pointer (some ⟨b, o, none⟩)) (.pointer (some ⟨b', o', none⟩))) w = .ok (.bool false) w := by
  obtain ⟨j, hj, hs⟩ := info67_one
  exact run_eql_ptr_other w Trym.underlying30 hj hs (by intro h; exact hne (congrArg Addr.block h)) hb hb'
end Go.Proofs.Qxb6613289aMods
