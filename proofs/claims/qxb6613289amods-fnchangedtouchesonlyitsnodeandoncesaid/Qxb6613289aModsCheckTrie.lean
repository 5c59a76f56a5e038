/- checkTrie: over the four nodes as they are told, true. -/
import Derived.Test.Qxb6613289aModsFields
import Derived.Test.Qxb6613289aModsSame
import Derived.Test.Qxb6613289aModsEq
namespace Go.Proofs.Qxb6613289aMods
open Go.RowKit

theorem neq26_nil (n c : Nat) (w : World) : Sem.run Trym.prog (binOp .neq 26 (.slice none n c) (.slice none 0 0)) w = .ok (.bool false) w := by kernel_rfl

set_option maxHeartbeats 2000000 in
theorem checkTrie_true {N b0 b2 b1 b5 bb be : Nat} {va va' pa pa' : Option Addr} {vn vc vc' pn pc pc' : Nat} {d0 d1 dB dE : Bool} {cB cE : List Value} {nB nE : Int} {zp zv : List Int} (w : World)
    (T : Trie4 N w b0 b2 b1 b5 bb be (.slice va vn vc) d0 d1 32769 (.slice none 0 0) cB nB dB (.slice pa pn pc) cE nE dE) (hB : cB.length = 33) (hE : cE.length = 33) (aB : AllBytes cB) (aE : AllBytes cE)
    (Rp : Row8 w pa pn pc zp) (Rp' : Row8 w pa' pn pc' zp) (np : pa.isNone = pa'.isNone) (Rv : Row8 w va vn vc zv) (Rv' : Row8 w va' vn vc' zv) (nv : va.isNone = va'.isNone) :
    Calls Trym.prog 33 #[.pointer (some ⟨be, 0, none⟩), .pointer (some ⟨bb, 0, none⟩), .pointer (some ⟨b0, 0, none⟩), .pointer (some ⟨b1, 0, none⟩), .bool dE, .bool dB, .bool d0, .bool d1, .agg cE.toArray, .int .u8 nE, .agg cB.toArray, .int .u8 nB, .slice pa' pn pc', .slice va' vn vc'] w fun e w' =>
      e = .returned (.bool true) ∧ Below w.heap.size w w' := by
  have NP : Hid (pa.isNone = pa'.isNone) := np
  have NV : Hid (va.isNone = va'.isNone) := nv
  clear np nv
  go_enter Trym.func33, Trym.ntmps33
  go_wp2_with fail
  have B0 : Below w.heap.size w ((w.alloc (.cells cE.toArray 27)).alloc (.cells cB.toArray 27)) := ((Below.refl _ w).alloc (Nat.le_refl _) _).alloc (by simp) _
  have kE : ((w.alloc (.cells cE.toArray 27)).alloc (.cells cB.toArray 27)).heap[w.heap.size]? = some (.cells cE.toArray 27) := heap_alloc2_old w _ _
  have kB : ((w.alloc (.cells cE.toArray 27)).alloc (.cells cB.toArray 27)).heap[w.heap.size + 1]? = some (.cells cB.toArray 27) := heap_alloc2_new w _ _
  have kS : ((w.alloc (.cells cE.toArray 27)).alloc (.cells cB.toArray 27)).heap.size = w.heap.size + 2 := by simp
  generalize (w.alloc (.cells cE.toArray 27)).alloc (.cells cB.toArray 27) = W0 at *
  refine (extFields_any be _ _ _ _ cE hE aE.one nE dE W0 (T.grown B0).ex).mono ?_
  rintro e w1 ⟨rfl, B1⟩
  have iE : (Trym.prog.info? 27).map (·.size) = some cE.toArray.size := by rw [Trym.info27]; simp [hE]
  have iB : (Trym.prog.info? 27).map (·.size) = some cB.toArray.size := by rw [Trym.info27]; simp [hB]
  have qE := eq27_same cE hE aE
  have qB := eq27_same cB hB aB
  have oE : cE.toArray.all (·.oneCell') = true := all_oneCell_toArray aE.one
  have oB : cB.toArray.all (·.oneCell') = true := all_oneCell_toArray aB.one
  have HE : Hid (cE.length = 33) := hE
  have HB : Hid (cB.length = 33) := hB
  have IE : Hid ((Trym.prog.info? 27).map (·.size) = some cE.toArray.size) := iE
  have IB : Hid ((Trym.prog.info? 27).map (·.size) = some cB.toArray.size) := iB
  have OE : Hid (cE.toArray.all (·.oneCell') = true) := oE
  have OB : Hid (cB.toArray.all (·.oneCell') = true) := oB
  have KE : Hid (W0.heap[w.heap.size]? = some (.cells cE.toArray 27)) := kE
  have KB : Hid (W0.heap[w.heap.size + 1]? = some (.cells cB.toArray 27)) := kB
  have KS : Hid (W0.heap.size = w.heap.size + 2) := kS
  have AB : Hid (∀ v ∈ cB, v.oneCell' = true) := aB.one
  clear hE hB iE iB oE oB kE kB kS aE aB
  go_wp2_with (first
    | (refine wpList_alloc_is rfl 27 rfl zero33.toArray zero27 ?_)
    | (refine wpList_store_new rfl 27 _ _ rfl w1 zero33.toArray cE.toArray rfl rfl rfl IE.out (by simp [zero33_length, HE.out]) OE.out ?_))
  have B2 : Below W0.heap.size W0 (w1.alloc (.cells cE.toArray 27)) := B1.alloc B1.size _
  have hz : w.heap.size ≤ W0.heap.size := B0.size
  have C2 := B0.trans (B2.mono hz)
  refine (sameBytes_below pa pa' pn pc pc' zp _ (Rp.grown C2) (Rp'.grown C2) NP.out).mono ?_
  rintro e w3 ⟨rfl, hh3, B3'⟩
  have B3 : Below W0.heap.size W0 w3 := B2.trans (B3'.mono (by have := B2.size; omega))
  have F30 : Hid (w3.heap[w1.heap.size]? = some (.cells cE.toArray 27)) := by show _ = _; rw [hh3]; exact heap_alloc_new w1 _
  have F22 : Hid (w3.heap[w.heap.size]? = some (.cells cE.toArray 27)) := by show _ = _; rw [B3.block _ (by rw [KS.out]; omega)]; exact KE.out
  clear hh3 B3' C2 B2 B1
  go_wp2_with (first
    | (refine wpList_load_row_g (by rfl) 27 _ rfl w1.heap.size rfl 27 cE.toArray (0, 0) (.array 33 5) F30.out Trym.underlying27 rfl IE.out ?_)
    | (refine wpList_load_row_g (by rfl) 27 _ rfl w.heap.size rfl 27 cE.toArray (0, 0) (.array 33 5) F22.out Trym.underlying27 rfl IE.out ?_))
  have C3 := B0.trans (B3.mono hz)
  refine (brFields_any bb _ 32769 none 0 0 cB HB.out AB.out nB dB w3 (T.grown C3).br).mono ?_
  rintro e w4 ⟨rfl, B4'⟩
  have B4 : Below W0.heap.size W0 w4 := B3.trans (B4'.mono B3.size)
  have B5 : Below W0.heap.size W0 (w4.alloc (.cells cB.toArray 27)) := B4.alloc B4.size _
  have F35 : Hid ((w4.alloc (.cells cB.toArray 27)).heap[w4.heap.size]? = some (.cells cB.toArray 27)) := heap_alloc_new w4 _
  have F24 : Hid ((w4.alloc (.cells cB.toArray 27)).heap[w.heap.size + 1]? = some (.cells cB.toArray 27)) := by show _ = _; rw [B5.block _ (by rw [KS.out]; omega)]; exact KB.out
  clear F30 F22 C3 B3 B4' B4
  have e1 := neq26_nil
  go_wp2_with (first
    | (refine wpList_alloc_is rfl 27 rfl zero33.toArray zero27 ?_)
    | (refine wpList_store_new rfl 27 _ _ rfl w4 zero33.toArray cB.toArray rfl rfl rfl IB.out (by simp [zero33_length, HB.out]) OB.out ?_)
    | (refine wpList_load_row_g (by rfl) 27 _ rfl w4.heap.size rfl 27 cB.toArray (0, 0) (.array 33 5) F35.out Trym.underlying27 rfl IB.out ?_)
    | (refine wpList_load_row_g (by rfl) 27 _ rfl (w.heap.size + 1) rfl 27 cB.toArray (0, 0) (.array 33 5) F24.out Trym.underlying27 rfl IB.out ?_))
  have C5 := B0.trans (B5.mono hz)
  refine (leafFields_below b0 none va 0 0 vn vc d0 _ (T.grown C5).l0).mono ?_
  rintro e w6 ⟨rfl, _, B6'⟩
  have B6 : Below W0.heap.size W0 w6 := B5.trans (B6'.mono B5.size)
  clear F35 F24 C5 B5 B6'
  go_wp2_with fail
  have C6 := B0.trans (B6.mono hz)
  refine (sameBytes_below va va' vn vc vc' zv _ (Rv.grown C6) (Rv'.grown C6) NV.out).mono ?_
  rintro e w7 ⟨rfl, _, B7'⟩
  have B7 : Below W0.heap.size W0 w7 := B6.trans (B7'.mono B6.size)
  clear C6 B6 B7'
  go_wp2_with fail
  have C7 := B0.trans (B7.mono hz)
  refine (leafFields_below b1 none (some ⟨b2, 0, none⟩) 0 0 1 1 d1 _ (T.grown C7).l1).mono ?_
  rintro e w8 ⟨rfl, _, B8'⟩
  have B8 : Below W0.heap.size W0 w8 := B7.trans (B8'.mono B7.size)
  have C8 := B0.trans (B8.mono hz)
  have c2 : w8.cell? ⟨b2, 0, none⟩ = some (.int .u8 2) := by rw [cell_of_row w8 b2 0 _ 5 _ (T.grown C8).two]; rfl
  have e2 := eql26_nil
  clear C7 B7 B8' B8
  go_wp2
  go_ret
  exact ⟨rfl, C8⟩
end Go.Proofs.Qxb6613289aMods
