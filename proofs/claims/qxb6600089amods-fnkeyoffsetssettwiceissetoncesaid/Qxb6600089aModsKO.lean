/- keyOffsets in memory: the index and the offsets; set. -/
import Derived.Test.Qxb6600089aModsBase
import Derived.Test.Qxb6600089aModsPlain
import Derived.Laws.IdiomStrings
namespace Go.Proofs.Qxb6600089aMods
open Go.RowKit Go.Maps
set_option linter.unusedSimpArgs false
set_option linter.unusedVariables false

theorem law9 : Keyed Trym.prog 9 := string_keyed Trym.underlying9
theorem zero3 (w : World) : (zeroValue 3).run Trym.prog w = .ok (.int .i64 0) w := by kernel_rfl
theorem Trym.info2 : (Trym.prog.info? 2).map (fun i => (i.zero, i.size, i.bytes)) = some (some (.int .i64 0), 1, 8) := by kernel_rfl

/-- THE STATE: the map in block bm is the index over the keys ks (the newest first), the slice gv holds the offsets os. All of it lies from block 'base' on. -/
structure KO (base : Nat) (w : World) (bm : Nat) (gv : Value) (ks : List (List UInt8)) (os : List Int) : Prop where
  lb : base ≤ bm
  map : w.ownsMap (H := Unit) Trym.prog 9 (plainElem Trym.prog 3) bm ks.length (Dk ks)
  row : w.ownsRow base 2 1 gv os.length (os.map (Value.int .i64))
  len : os.length = ks.length
  nd : ks.Nodup
  wf : ∀ z ∈ os, (Lit.int .i64 z).wf = true
  small : ks.length ≤ 5000

/-- A key's bytes lie in a block. -/
def KeyAt (w : World) (g : Nat) (s : List UInt8) : Prop := ∃ (C : Array Value) (t : TypeId) (fr : Nat × Nat), w.heap[g]? = some (.cells C t fr) ∧ ∀ j (hj : j < s.length), C[j]? = some (.int .u8 (s[j].toNat : Int))

theorem KeyAt.conv {w : World} {g : Nat} {s : List UInt8} (h : KeyAt w g s) (cap : Nat) : (convert 34 9 (.slice (some ⟨g, 0, none⟩) s.length cap)).run Trym.prog w = .ok (.string ⟨s.toArray⟩) w := by
  obtain ⟨C, t, fr, hg, hc⟩ := h
  refine run_convert_bytes_back w 34 9 5 ⟨g, 0, none⟩ cap s Trym.underlying34 Trym.underlying5 Trym.underlying9 (fun j hj => ?_)
  have hadd : (⟨g, 0, none⟩ : Addr).add j = ⟨g, j, none⟩ := by unfold Addr.add; split <;> simp_all
  rw [hadd, cell_of_row w g j C t fr hg]
  exact hc j hj

theorem key9 (s : List UInt8) (h : s.length ≤ maxLen) : keyOf Trym.prog 9 (.string ⟨s.toArray⟩) = some (klit s) := by
  have := Go.WideMaps.keyOf_string_mk (P := Trym.prog) (s := ⟨s.toArray⟩) Trym.underlying9 (by simpa [ByteArray.size] using h)
  simpa [klit] using this

/-- What a look-up with 'ok' gives. -/
theorem KO.look {base : Nat} {w : World} {bm : Nat} {gv : Value} {ks : List (List UInt8)} {os : List Int} (E : KO base w bm gv ks os) (s : List UInt8) (hs : s.length ≤ maxLen) :
    (Instr.lookup 27 (.map (some bm)) (.string ⟨s.toArray⟩) true).run Trym.prog w = .ok (.tuple #[.int .i64 (place ks s : Int), .bool (decide (s ∈ ks))]) w := by
  obtain ⟨v, ps, hrun, hv⟩ := E.map.look_ok law9 Trym.underlying27 (zero3 w) (zd := i64d 0) (zp := []) (plainElem_int Trym.underlying3 (by decide)) (key9 s hs)
  obtain ⟨c, rfl, hc, _⟩ := plainElem_int_inv Trym.underlying3 hv
  have e1 : (Dk ks).atKey (klit s) (i64d 0) = .lit (.int .i64 c) := congrArg Prod.fst hc
  rw [at_Dk] at e1
  have e2 : (place ks s : Int) = c := by
    unfold i64d at e1
    injection e1 with e1
    injection e1
  rw [hrun, has_Dk, e2]
end Go.Proofs.Qxb6600089aMods
