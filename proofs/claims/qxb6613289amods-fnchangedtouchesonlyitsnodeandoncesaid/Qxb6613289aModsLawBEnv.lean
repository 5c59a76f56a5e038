/- What the law FnChangedTouchesOnlyItsNodeAndOnce has laid in memory, and what each call turns of it. -/
import Derived.Test.Qxb6613289aModsCheckTrie
namespace Go.Proofs.Qxb6613289aMods
open Go.RowKit

structure EnvB (W w : World) (b0 b2 b1 b5 bb be gv gp x y len9 len10 : Nat) (z9 z10 : List Int) (d0 d1 : Bool) (cB : List Value) (nB : Int) (dB : Bool) (cE : List Value) (nE : Int) (dE : Bool) (rx ry : List Value) : Prop where
  T : Trie4 W.heap.size w b0 b2 b1 b5 bb be (.slice (some ⟨gv, 0, none⟩) len10 len10) d0 d1 32769 (.slice none 0 0) cB nB dB (.slice (some ⟨gp, 0, none⟩) len9 len9) cE nE dE
  hv : w.heap[gv]? = some (.cells (bytes z10).toArray 5)
  hp : w.heap[gp]? = some (.cells (bytes z9).toArray 5)
  hx : w.heap[x]? = some (.cells rx.toArray 27)
  hy : w.heap[y]? = some (.cells ry.toArray 27)
  xy : x ≠ y
  lx : W.heap.size ≤ x
  ly : W.heap.size ≤ y
  bel : Below W.heap.size W w

theorem ne_of_types {w : World} {a b : Nat} {C D : Array Value} {t u : TypeId} (h : w.heap[a]? = some (.cells C t)) (k : w.heap[b]? = some (.cells D u)) (hn : t ≠ u) : a ≠ b := by
  intro e
  subst e
  rw [h] at k
  simp only [Option.some.injEq, Obj.cells.injEq] at k
  exact hn k.2.1

section
variable {W w w' : World} {b0 b2 b1 b5 bb be gv gp x y len9 len10 : Nat} {z9 z10 : List Int} {d0 d1 : Bool} {cB : List Value} {nB : Int} {dB : Bool} {cE : List Value} {nE : Int} {dE : Bool} {rx ry : List Value}

theorem EnvB.grown (E : EnvB W w b0 b2 b1 b5 bb be gv gp x y len9 len10 z9 z10 d0 d1 cB nB dB cE nE dE rx ry) (hB : Below w.heap.size w w') : EnvB W w' b0 b2 b1 b5 bb be gv gp x y len9 len10 z9 z10 d0 d1 cB nB dB cE nE dE rx ry := by
  have lt : ∀ {k : Nat} {o : Obj}, w.heap[k]? = some o → k < w.heap.size := fun h => (Array.getElem?_eq_some_iff.1 h).1
  exact ⟨E.T.grown hB, by rw [hB.block gv (lt E.hv)]; exact E.hv, by rw [hB.block gp (lt E.hp)]; exact E.hp, by rw [hB.block x (lt E.hx)]; exact E.hx, by rw [hB.block y (lt E.hy)]; exact E.hy, E.xy, E.lx, E.ly, E.bel.trans (hB.mono E.bel.size)⟩

theorem EnvB.lt0 (E : EnvB W w b0 b2 b1 b5 bb be gv gp x y len9 len10 z9 z10 d0 d1 cB nB dB cE nE dE rx ry) : W.heap.size ≤ b0 ∧ W.heap.size ≤ bb ∧ W.heap.size ≤ be := by
  have := E.T.new; have := E.T.lt02; have := E.T.lt21; have := E.T.lt1b; have := E.T.ltbe
  omega

theorem EnvB.changedE (E : EnvB W w b0 b2 b1 b5 bb be gv gp x y len9 len10 z9 z10 d0 d1 cB nB dB cE nE dE rx ry) (ht : Turned be w w')
    (h : w'.heap[be]? = some (.cells (extCells (.slice (some ⟨gp, 0, none⟩) len9 len9) (.iface 22 (.pointer (some ⟨bb, 0, none⟩))) zero33 0 true).toArray 70)) : EnvB W w' b0 b2 b1 b5 bb be gv gp x y len9 len10 z9 z10 d0 d1 cB nB dB zero33 0 true rx ry :=
  ⟨E.T.changedE ht h, by rw [ht.other gv (ne_of_types E.hv E.T.ex (by decide))]; exact E.hv, by rw [ht.other gp (ne_of_types E.hp E.T.ex (by decide))]; exact E.hp,
    by rw [ht.other x (ne_of_types E.hx E.T.ex (by decide))]; exact E.hx, by rw [ht.other y (ne_of_types E.hy E.T.ex (by decide))]; exact E.hy, E.xy, E.lx, E.ly, E.bel.trans (ht.below E.lt0.2.2)⟩

theorem EnvB.changedB (E : EnvB W w b0 b2 b1 b5 bb be gv gp x y len9 len10 z9 z10 d0 d1 cB nB dB cE nE dE rx ry) (ht : Turned bb w w')
    (h : w'.heap[bb]? = some (.cells (brCells (.slice (some ⟨b5, 0, none⟩) 2 2) (.int .u16 32769) (.slice none 0 0) zero33 0 true).toArray 81)) : EnvB W w' b0 b2 b1 b5 bb be gv gp x y len9 len10 z9 z10 d0 d1 zero33 0 true cE nE dE rx ry :=
  ⟨E.T.changedB ht h, by rw [ht.other gv (ne_of_types E.hv E.T.br (by decide))]; exact E.hv, by rw [ht.other gp (ne_of_types E.hp E.T.br (by decide))]; exact E.hp,
    by rw [ht.other x (ne_of_types E.hx E.T.br (by decide))]; exact E.hx, by rw [ht.other y (ne_of_types E.hy E.T.br (by decide))]; exact E.hy, E.xy, E.lx, E.ly, E.bel.trans (ht.below E.lt0.2.1)⟩

theorem EnvB.changed0 (E : EnvB W w b0 b2 b1 b5 bb be gv gp x y len9 len10 z9 z10 d0 d1 cB nB dB cE nE dE rx ry) (ht : Turned b0 w w')
    (h : w'.heap[b0]? = some (.cells #[.slice none 0 0, .slice (some ⟨gv, 0, none⟩) len10 len10, .bool true] 78)) : EnvB W w' b0 b2 b1 b5 bb be gv gp x y len9 len10 z9 z10 true d1 cB nB dB cE nE dE rx ry :=
  ⟨E.T.changed0 ht h, by rw [ht.other gv (ne_of_types E.hv E.T.l0 (by decide))]; exact E.hv, by rw [ht.other gp (ne_of_types E.hp E.T.l0 (by decide))]; exact E.hp,
    by rw [ht.other x (ne_of_types E.hx E.T.l0 (by decide))]; exact E.hx, by rw [ht.other y (ne_of_types E.hy E.T.l0 (by decide))]; exact E.hy, E.xy, E.lx, E.ly, E.bel.trans (ht.below E.lt0.1)⟩

/-- A block of another kind is written: the trie stands. -/
theorem Trie4.turned {N b : Nat} {v0 v pE : Value} {m : Int} (T : Trie4 N w b0 b2 b1 b5 bb be v0 d0 d1 m v cB nB dB pE cE nE dE) (ht : Turned b w w') {C : Array Value} (hb : w.heap[b]? = some (.cells C 27)) : Trie4 N w' b0 b2 b1 b5 bb be v0 d0 d1 m v cB nB dB pE cE nE dE :=
  ⟨T.new, T.lt02, T.lt21, T.lt1b, T.ltbe, by rw [ht.other b0 (ne_of_types T.l0 hb (by decide))]; exact T.l0, by rw [ht.other b2 (ne_of_types T.two hb (by decide))]; exact T.two,
    by rw [ht.other b1 (ne_of_types T.l1 hb (by decide))]; exact T.l1, by rw [ht.other bb (ne_of_types T.br hb (by decide))]; exact T.br, by rw [ht.other be (ne_of_types T.ex hb (by decide))]; exact T.ex⟩

theorem EnvB.setX (E : EnvB W w b0 b2 b1 b5 bb be gv gp x y len9 len10 z9 z10 d0 d1 cB nB dB cE nE dE rx ry) (hr : rx.length = 33) : EnvB W (w.setCells x 0 zero33) b0 b2 b1 b5 bb be gv gp x y len9 len10 z9 z10 d0 d1 cB nB dB cE nE dE zero33 ry := by
  have ht := Turned.setCells x zero33 0 w
  refine ⟨E.T.turned ht E.hx, by rw [ht.other gv (ne_of_types E.hv E.hx (by decide))]; exact E.hv, by rw [ht.other gp (ne_of_types E.hp E.hx (by decide))]; exact E.hp, ?_, by rw [ht.other y (Ne.symm E.xy)]; exact E.hy, E.xy, E.lx, E.ly, E.bel.trans (ht.below E.lx)⟩
  rw [heap_setCells x 27 zero33 0 w rx E.hx (by simp [zero33_length, hr])]
  simp [zero33_length, hr]
theorem EnvB.setY (E : EnvB W w b0 b2 b1 b5 bb be gv gp x y len9 len10 z9 z10 d0 d1 cB nB dB cE nE dE rx ry) (hr : ry.length = 33) : EnvB W (w.setCells y 0 zero33) b0 b2 b1 b5 bb be gv gp x y len9 len10 z9 z10 d0 d1 cB nB dB cE nE dE rx zero33 := by
  have ht := Turned.setCells y zero33 0 w
  refine ⟨E.T.turned ht E.hy, by rw [ht.other gv (ne_of_types E.hv E.hy (by decide))]; exact E.hv, by rw [ht.other gp (ne_of_types E.hp E.hy (by decide))]; exact E.hp, by rw [ht.other x E.xy]; exact E.hx, ?_, E.xy, E.lx, E.ly, E.bel.trans (ht.below E.ly)⟩
  rw [heap_setCells y 27 zero33 0 w ry E.hy (by simp [zero33_length, hr])]
  simp [zero33_length, hr]

/-- checkTrie where the variables say what the trie holds. -/
theorem EnvB.check {x9 x10 : Addr} {cap9 cap10 : Nat} (E : EnvB W w b0 b2 b1 b5 bb be gv gp x y len9 len10 z9 z10 d0 d1 cB nB dB cE nE dE rx ry) (hB : cB.length = 33) (hE : cE.length = 33) (aB : AllBytes cB) (aE : AllBytes cE)
    (R9 : Row8 W (some x9) len9 cap9 z9) (R10 : Row8 W (some x10) len10 cap10 z10) :
    Calls Trym.prog 33 #[.pointer (some ⟨be, 0, none⟩), .pointer (some ⟨bb, 0, none⟩), .pointer (some ⟨b0, 0, none⟩), .pointer (some ⟨b1, 0, none⟩), .bool dE, .bool dB, .bool d0, .bool d1, .agg cE.toArray, .int .u8 nE, .agg cB.toArray, .int .u8 nB, .slice (some x9) len9 cap9, .slice (some x10) len10 cap10] w fun e w' =>
      e = .returned (.bool true) ∧ EnvB W w' b0 b2 b1 b5 bb be gv gp x y len9 len10 z9 z10 d0 d1 cB nB dB cE nE dE rx ry := by
  refine (checkTrie_true w E.T hB hE aB aE (row_of_block R9 E.hp) (R9.grown E.bel) rfl (row_of_block R10 E.hv) (R10.grown E.bel) rfl).mono ?_
  rintro e w' ⟨rfl, h⟩
  exact ⟨rfl, E.grown h⟩
end
end Go.Proofs.Qxb6613289aMods
