/- 'build' of a struct whose parts are rows of whatever cells: no unrolling. -/
import Derived.Test.Qxb6613289aModsRows
import Derived.WalkKit
import Derived.Laws.Tables
namespace Go.Proofs.Qxb6613289aMods
open Go.RowKit

theorem fold_put (off : Nat) : ∀ (c : List Value) (k : Nat) (l : List Value), off + k + c.length ≤ l.length →
    (c.zipIdx k).foldl (fun (cs : Array Value) p => cs.setIfInBounds (off + p.2) p.1) l.toArray = (l.take (off + k) ++ c ++ l.drop (off + k + c.length)).toArray
  | [], k, l, h => by simp
  | x :: c, k, l, h => by
    simp only [List.length_cons] at h
    simp only [List.zipIdx_cons, List.foldl_cons, List.setIfInBounds_toArray]
    rw [fold_put off c (k + 1) (l.set (off + k) x) (by simp; omega)]
    congr 1
    apply List.ext_getElem?
    intro i
    simp only [List.length_cons, List.getElem?_append, List.length_append, List.length_take, List.length_set, List.getElem?_take, List.getElem?_drop, List.getElem?_set, List.getElem?_cons]
    have m1 : min (off + (k + 1)) l.length = off + k + 1 := by omega
    have m2 : min (off + k) l.length = off + k := by omega
    rw [m1, m2]
    by_cases h1 : i < off + k
    · simp [h1, show i < off + k + 1 from by omega, show i < off + k + 1 + c.length from by omega, show i < off + k + (c.length + 1) from by omega, show off + (k + 1) = off + k + 1 from by omega]
      intro e; omega
    · by_cases h2 : i = off + k
      · subst h2
        simp [show off + (k + 1) = off + k + 1 from by omega, show off + k < l.length from by omega, show off + k < off + k + 1 + c.length from by omega, show off + k < off + k + (c.length + 1) from by omega]
      · by_cases h3 : i < off + k + (c.length + 1)
        · rw [if_pos (by omega), if_neg (by omega), if_pos h3, if_neg (by omega), if_neg (by omega)]
          congr 1
        · rw [if_neg (by omega), if_neg (by omega), if_neg (by omega)]
          congr 1; omega

theorem fill_cons (place : Nat → Option (Nat × Nat)) (l : List Value) (i : Nat) (v : Value) (c : List Value) (hv : v.cells = c.toArray) (off : Nat) (hp : place i = some (off, c.length)) (hl : off + c.length ≤ l.length) (rest : List (Nat × Value)) :
    Instr.fill place l.toArray ((i, v) :: rest) = Instr.fill place (l.take off ++ c ++ l.drop (off + c.length)).toArray rest := by
  have h0 := fold_put off c 0 l (by omega)
  simp only [Nat.add_zero] at h0
  rw [← h0]
  rw [Instr.fill, hp]
  simp only [hv]
  rw [if_neg (by simp; omega)]
  congr 1
  rw [← Array.foldl_toList]
  simp

theorem built65_fill (parts : List (Nat × Value)) : Trym.prog.built 65 parts = Instr.fill (fun i => #[(0, 33), (33, 1)][i]?) (List.replicate 34 (Value.int .u8 0)).toArray parts := by kernel_rfl
theorem built70_fill (parts : List (Nat × Value)) : Trym.prog.built 70 parts = Instr.fill (fun i => #[(0, 1), (1, 1), (2, 34), (36, 1)][i]?) ([Value.slice none 0 0, .nilIface] ++ List.replicate 34 (Value.int .u8 0) ++ [Value.bool false]).toArray parts := by kernel_rfl
theorem built81_fill (parts : List (Nat × Value)) : Trym.prog.built 81 parts = Instr.fill (fun i => #[(0, 1), (1, 1), (2, 1), (3, 34), (37, 1)][i]?) ([Value.slice none 0 0, .int .u16 0, .slice none 0 0] ++ List.replicate 34 (Value.int .u8 0) ++ [Value.bool false]).toArray parts := by kernel_rfl

/-- The cells of a ref: the bytes, the length. -/
def refCells (cs : List Value) (n : Int) : List Value := cs ++ [.int .u8 n]
theorem refCells_length (cs : List Value) (n : Int) (h : cs.length = 33) : (refCells cs n).length = 34 := by simp [refCells, h]
/-- The cells of an extension. -/
def extCells (p c : Value) (cs : List Value) (n : Int) (d : Bool) : List Value := [p, c] ++ refCells cs n ++ [.bool d]
/-- The cells of a branch. -/
def brCells (ch m v : Value) (cs : List Value) (n : Int) (d : Bool) : List Value := [ch, m, v] ++ refCells cs n ++ [.bool d]

theorem built65 (cs : List Value) (h : cs.length = 33) (n : Int) : Trym.prog.built 65 [(0, .agg cs.toArray), (1, .int .u8 n)] = some (refCells cs n).toArray := by
  rw [built65_fill, fill_cons _ _ 0 (.agg cs.toArray) cs rfl 0 (by simp [h]) (by simp [h]), fill_cons _ _ 1 (.int .u8 n) [.int .u8 n] rfl 33 (by simp) (by simp [h])]
  simp [Instr.fill, refCells, h]

theorem built70 (pa : Option Addr) (pn pc : Nat) (t : TypeId) (x : Value) (cs : List Value) (n : Int) (h : cs.length = 33) (d : Bool) :
    Trym.prog.built 70 [(0, .slice pa pn pc), (1, .iface t x), (2, .agg (refCells cs n).toArray), (3, .agg #[.bool d])] = some (extCells (.slice pa pn pc) (.iface t x) cs n d).toArray := by
  have h' := refCells_length cs n h
  unfold extCells
  generalize refCells cs n = r at h' ⊢
  rw [built70_fill, fill_cons _ _ 0 (.slice pa pn pc) [.slice pa pn pc] rfl 0 (by simp) (by simp), fill_cons _ _ 1 (.iface t x) [.iface t x] rfl 1 (by simp) (by simp),
    fill_cons _ _ 2 (.agg r.toArray) r rfl 2 (by simp [h']) (by simp [h']), fill_cons _ _ 3 (.agg #[.bool d]) [.bool d] rfl 36 (by simp) (by simp [h'])]
  simp [Instr.fill, h']

theorem built81 (ca : Option Addr) (cn cc : Nat) (m : Int) (va : Option Addr) (vn vc : Nat) (cs : List Value) (n : Int) (h : cs.length = 33) (d : Bool) :
    Trym.prog.built 81 [(0, .slice ca cn cc), (1, .int .u16 m), (2, .slice va vn vc), (3, .agg (refCells cs n).toArray), (4, .agg #[.bool d])] = some (brCells (.slice ca cn cc) (.int .u16 m) (.slice va vn vc) cs n d).toArray := by
  have h' := refCells_length cs n h
  unfold brCells
  generalize refCells cs n = r at h' ⊢
  rw [built81_fill, fill_cons _ _ 0 (.slice ca cn cc) [.slice ca cn cc] rfl 0 (by simp) (by simp), fill_cons _ _ 1 (.int .u16 m) [.int .u16 m] rfl 1 (by simp) (by simp),
    fill_cons _ _ 2 (.slice va vn vc) [.slice va vn vc] rfl 2 (by simp) (by simp),
    fill_cons _ _ 3 (.agg r.toArray) r rfl 3 (by simp [h']) (by simp [h']), fill_cons _ _ 4 (.agg #[.bool d]) [.bool d] rfl 37 (by simp) (by simp [h'])]
  simp [Instr.fill, h']

/-- AT THE OPERATION: a build whose cells are known. -/
theorem wpList_build_is {P : Program} {ops : Array Oper} {rest : List Oper} {o : Oper} {a : Act} {w : World} {Q : Exit → Act → World → Prop} (hg : o.guard = none) (t : TypeId) (parts : List (Nat × Operand)) (ho : o.op = .build t parts.toArray)
    (l : List (Nat × Value)) (hl : parts.map (fun p => (p.1, a.eval p.2)) = l) (cells : Array Value) (hc : P.built t l = some cells)
    (h : wpList P ops Q rest (a.put o.dst (.agg cells)) w) : wpList P ops Q (o :: rest) a w :=
  wpList_plain hg fun _ hK => by
    subst hl
    have e : (parts.toArray.map fun (i, x) => (i, a.eval x)).toList = parts.map (fun p => (p.1, a.eval p.2)) := by simp
    refine wp_build t parts.toArray ho (by rw [e, hc]; rfl) ?_
    rw [e, hc]
    exact hK _ _ h
end Go.Proofs.Qxb6613289aMods
