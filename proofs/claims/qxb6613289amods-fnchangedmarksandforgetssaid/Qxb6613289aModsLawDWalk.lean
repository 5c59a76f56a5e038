/- The walk of FnChangedMarksAndForgets. -/
import Derived.Test.Qxb6613289aModsLawCWalk
import Derived.Test.Qxb6613289aModsFields
namespace Go.Proofs.Qxb6613289aMods
open Go.RowKit
set_option linter.unusedSimpArgs false
set_option linter.unusedVariables false

theorem shl_run (n : Int) (h : 0 ≤ n) : ∃ s : Int, ∀ w, Sem.run Trym.prog (Op.shift BinOp.shl IntKind.u16 1 IntKind.u8 n) w = .ok (.int .u16 s) w :=
  ⟨IntKind.u16.wrap (1 * 2 ^ min n.toNat IntKind.u16.bits), fun w => by rw [shift_shl_any _ _ _ _ h]; rfl⟩

set_option maxHeartbeats 400000 in
theorem isZeroRef_true (w : World) : Calls Trym.prog 30 #[.agg zero33.toArray, .int .u8 0] w fun e w' => e = .returned (.bool true) ∧ Below w.heap.size w w' := by
  have i0 : Hid ((Trym.prog.info? 27).map (·.size) = some zero33.toArray.size) := by show _ = _; rw [Trym.info27]; simp [zero33_length]
  have k0 : Hid (((w.alloc (.cells zero33.toArray 27)).alloc (.cells zero33.toArray 27)).heap[w.heap.size]? = some (.cells zero33.toArray 27)) := heap_alloc2_old w _ _
  have k1 : Hid (((w.alloc (.cells zero33.toArray 27)).alloc (.cells zero33.toArray 27)).heap[w.heap.size + 1]? = some (.cells zero33.toArray 27)) := heap_alloc2_new w _ _
  have q := eq27_same zero33 zero33_length zero33_bytes
  go_enter Trym.func30, Trym.ntmps30
  go_wp2_with (first
    | (refine wpList_alloc_is rfl 27 rfl zero33.toArray zero27 ?_)
    | (refine wpList_load_row_g (by rfl) 27 _ rfl w.heap.size rfl 27 zero33.toArray (0, 0) (.array 33 5) k0.out Trym.underlying27 rfl i0.out ?_)
    | (refine wpList_load_row_g (by rfl) 27 _ rfl (w.heap.size + 1) rfl 27 zero33.toArray (0, 0) (.array 33 5) k1.out Trym.underlying27 rfl i0.out ?_))
  go_ret
  exact ⟨rfl, ((Below.refl _ w).alloc (Nat.le_refl _) _).alloc (by simp) _⟩

set_option maxRecDepth 100000 in
set_option maxHeartbeats 4000000 in
theorem lawD_walk (a0 : Int) (a1 : Option Addr) (len1 cap1 : Nat) (z1 : List Int) (a2 : Option Addr) (len2 cap2 : Nat) (z2 : List Int) (a3 : Array Value) (a4 : Int) (a5 : Bool) (a6 a7 : Int) (w : World)
    (w0 : (Lit.int .u8 a0).wf = true) (w1 : Row8 w a1 len1 cap1 z1) (w2 : Row8 w a2 len2 cap2 z2) (w3 : a3.size = 33 ∧ AllBytes a3.toList) (w4 : (Lit.int .u8 a4).wf = true) (w6 : (Lit.int .u8 a6).wf = true) (w7 : (Lit.int .u8 a7).wf = true) :
    Calls Trym.prog 6 #[.int .u8 a0, .slice a1 len1 cap1, .slice a2 len2 cap2, .agg a3, .int .u8 a4, .bool a5, .int .u8 a6, .int .u8 a7] w fun e w' => e = .returned (.bool true) ∧ Below w.heap.size w w' := by
  obtain ⟨c3, rfl⟩ : ∃ l : List Value, a3 = l.toArray := ⟨a3.toList, by simp⟩
  obtain ⟨h3, A3⟩ := w3
  simp only [List.size_toArray] at h3 A3
  obtain ⟨s0, hs0⟩ := shl_run a6 (bounds_u8 w6).1
  obtain ⟨s1, hs1⟩ := shl_run a7 (bounds_u8 w7).1
  have m1 : len1 ≤ maxLen := Nat.le_trans w1.le w1.small
  have m2 : len2 ≤ maxLen := Nat.le_trans w2.le w2.small
  have B0 : Below w.heap.size w (w.alloc (.cells c3.toArray 27)) := (Below.refl _ w).alloc (Nat.le_refl _) _
  have K3 : Hid ((w.alloc (.cells c3.toArray 27)).heap[w.heap.size]? = some (.cells c3.toArray 27)) := heap_alloc_new w _
  have KS : Hid ((w.alloc (.cells c3.toArray 27)).heap.size = w.heap.size + 1) := by show _ = _; simp
  have H3 := hidmk h3
  have I3 : Hid ((Trym.prog.info? 27).map (·.size) = some c3.toArray.size) := by show _ = _; rw [Trym.info27]; simp [h3]
  have i0 : Hid ((Trym.prog.info? 27).map (·.size) = some zero33.toArray.size) := by show _ = _; rw [Trym.info27]; simp [zero33_length]
  have OZ : Hid (zero33.toArray.all (·.oneCell') = true) := all_oneCell_toArray zero33_bytes.one
  clear h3 A3 w0 w4 w6 w7
  go_enter Trym.func6, Trym.ntmps6
  go_wp2_with (refine wpList_load_row rfl 27 _ rfl w.heap.size rfl 27 c3.toArray (0, 0) (.array 33 5) K3.out Trym.underlying27 rfl I3.out ?_)
  generalize w.alloc (.cells c3.toArray 27) = W0 at *
  refine (zz26_any _ _ _ _ _ _ _ _ _ _ _ _ m1 m2 _).mono ?_
  rintro e v1 ⟨r, rfl, B1'⟩
  have hz : w.heap.size ≤ W0.heap.size := B0.size
  have B1 := B0.trans (B1'.mono hz)
  cases r
  · go_wp2
    go_ret
    exact ⟨rfl, B1⟩
  unfold maxLen at m1 m2
  by_cases l1 : 65536 < len1
  · go_wp2
    go_ret
    exact ⟨rfl, B1⟩
  by_cases l2 : 65536 < len2
  · go_wp2
    go_ret
    exact ⟨rfl, B1⟩
  by_cases r4 : 33 < a4
  · go_wp2
    go_ret
    exact ⟨rfl, B1⟩
  go_wp2_with fail
  refine (allNibbles_any a1 len1 cap1 z1 v1 (w1.grown B1)).mono ?_
  rintro e v ⟨rfl, rfl⟩
  generalize nib z1 = nb
  cases nb
  · go_wp2
    go_ret
    exact ⟨rfl, B1⟩
  by_cases g1 : a7 ≤ a6
  · go_wp2
    go_ret
    exact ⟨rfl, B1⟩
  by_cases g2 : 15 < a7
  · go_wp2
    go_ret
    exact ⟨rfl, B1⟩
  have k3 : v.heap[w.heap.size]? = some (.cells c3.toArray 27) := by rw [B1'.block _ (by rw [KS.out]; omega)]; exact K3.out
  have R1 := w1.grown B1
  have R2 := w2.grown B1
  have J3 := hidmk k3
  clear K3 KS B1' B0 k3 hz
  by_cases q0 : a0 = 0
  · subst q0
    by_cases e2 : len2 = 0
    · have e2' : ((len2 : Int) == 0) = true := by simp [e2]
      clear e2
      go_wp2
      go_ret
      exact ⟨rfl, B1⟩
    have e2' : ((len2 : Int) == 0) = false := by simp; omega
    go_wp2_with fail
    refine (clone_any a1 len1 cap1 z1 _ R1 (by omega)).mono ?_
    rintro e v2 ⟨pa, pc, rfl, B2, C2, n1⟩
    have NP := hidmk n1
    clear n1
    go_wp2_with fail
    refine (clone_any a2 len2 cap2 z2 _ (R2.grown B2) (by omega)).mono ?_
    rintro e v3 ⟨va, vc, rfl, B3, C3, n2⟩
    have NV := hidmk n2
    clear n2
    go_wp2_with fail
    refine (newLeaf_new _ _ _ _ _ _ _ _).mono ?_
    rintro e v4 ⟨bl, rfl, x1, x2, B4, L4⟩
    have D3 : Below v.heap.size v v3 := B2.trans (B3.mono B2.size)
    have D4 : Below v.heap.size v v4 := D3.trans (B4.mono D3.size)
    have P4 := (C2.grown B3).grown B4
    have V4 := C3.grown B4
    have nb : v.heap.size ≤ bl := Nat.le_trans D3.size x1
    clear B2 B3 B4 C2 C3 D3 x1 x2
    go_wp2_with fail
    refine (changedLeaf_block bl _ _ a5 _ L4).mono ?_
    rintro e v5 ⟨rfl, ht, hx⟩
    have D5 := D4.trans (ht.below nb)
    have P5 := P4.turned ht L4 (by decide)
    have V5 := V4.turned ht L4 (by decide)
    clear ht L4 D4 P4 V4
    go_wp2_with fail
    refine (stateOfLeaf_any _ _).mono ?_
    rintro e v6 ⟨rfl, rfl⟩
    go_wp2_with fail
    refine (leafFields_below bl pa va len1 pc len2 vc true _ hx).mono ?_
    rintro e v7 ⟨rfl, _, B7⟩
    have D7 := D5.trans (B7.mono D5.size)
    have P7 := (P5.grown B7).row R1
    have V7 := (V5.grown B7).row R2
    have c7 : v7.cell? ⟨bl, 2, none⟩ = some (.bool true) := by rw [B7.cell (p := ⟨bl, 2, none⟩) (Array.getElem?_eq_some_iff.1 hx).1, cell_of_row v6 bl 2 _ 78 _ hx]; rfl
    have R1' := R1.grown D7
    have R2' := R2.grown D7
    clear P5 V5 D5 hx B7
    go_wp2_with (go_at_call 13; go_in)
    refine (sameBytes_below pa a1 len1 pc cap1 z1 _ P7 R1' NP.out).mono ?_
    rintro e v8 ⟨rfl, _, B8⟩
    clear c7
    go_wp2_with fail
    refine (sameBytes_below va a2 len2 vc cap2 z2 _ (V7.grown B8) (R2'.grown B8) NV.out).mono ?_
    rintro e v9 ⟨rfl, _, B9⟩
    have D9 : Below w.heap.size w v9 := B1.trans (((D7.trans (B8.mono D7.size)).trans (B9.mono (Nat.le_trans D7.size B8.size))).mono B1.size)
    clear B8 B9 D7 P7 V7 R1' R2'
    go_wp2
    go_ret
    exact ⟨rfl, D9⟩
  have p0 : (a0 == 0) = false := by simpa using q0
  by_cases q1 : a0 = 1
  · subst q1
    clear p0 q0
    by_cases e1 : len1 = 0
    · have e1' : ((len1 : Int) == 0) = true := by simp [e1]
      clear e1
      go_wp2
      go_ret
      exact ⟨rfl, B1⟩
    have e1' : ((len1 : Int) == 0) = false := by simp; omega
    go_wp2_with fail
    have B2 : Below v.heap.size v (v.alloc (.cells #[.int .u8 1] 5)) := (Below.refl _ v).alloc (Nat.le_refl _) _
    refine (clone_any a2 len2 cap2 z2 _ (R2.grown B2) (by omega)).mono ?_
    rintro e v2 ⟨va, vc, rfl, B3, C2, _⟩
    go_wp2_with fail
    refine (orNil_copy va len2 vc z2 _ w2.length C2).mono ?_
    rintro e v3 ⟨va', vc', rfl, rfl, C3, _⟩
    clear C2 C3
    go_wp2_with (refine wpList_build_is rfl 27 [] rfl [] rfl _ built27_zero ?_)
    refine (twoLeaf_any _ _ s0 s1 hs0 hs1 _ _ _ _ _ _ _ _ zero33 zero33_length _ _ _).mono ?_
    rintro e v4 ⟨b0, b2, b1, b5, bb, rfl, T⟩
    have D3 : Below v.heap.size v v3 := B2.trans (B3.mono B2.size)
    have D4 : Below v.heap.size v v4 := D3.trans (T.below.mono D3.size)
    clear T B2 B3 D3
    go_wp2
    have hlt : w.heap.size < v.heap.size := (Array.getElem?_eq_some_iff.1 J3.out).1
    have S0 : v4.drew.rangeAt w.heap.size 0 c3 ∧ w.heap.size < v4.drew.heap.size ∧ Below w.heap.size w v4.drew :=
      keepC (X := v) D4.drew ⟨rangeC_of_row J3.out, hlt, B1⟩
    have u27 := Trym.underlying27
    have i27 : (Trym.prog.info? 27).map (·.size) = some c3.length := by rw [Trym.info27, H3.out]
    have Q1 : Row8 v4.drew a1 len1 cap1 z1 := R1.grown D4.drew
    go_region_held3 (fun w' => w'.rangeAt w.heap.size 0 c3 ∧ w.heap.size < w'.heap.size ∧ Below w.heap.size w w')
      (first | exact S0 | (apply keepC <;> assumption))
      (first
        | (go_at_call 22; refine (clone_any _ _ _ _ _ Q1 (by omega)).mono ?_; rintro e v5 ⟨pa, pc, rfl, F3, F4, F6⟩)
        | (go_at_call 9; refine (newExt_new _ _ _ _ c3 H3.out _ _ _).mono ?_; rintro e v6 ⟨be, rfl, E1, E2, E3, E4⟩))
    rename_i hHeld
    have D6 := hHeld.2.2
    have f3 : Below v4.heap.size v4 v5 := ((Below.refl _ v4).drew).trans F3
    have nbe : w.heap.size ≤ be := by have := f3.size; have := D4.size; omega
    have P6 := F4.grown E3
    have NP := hidmk F6
    clear hHeld S0 u27 i27 Q1 F3 F4 F6 f3 E1 E2 E3 D4 R2 hlt e1' e1
    go_wp2_with fail
    refine (changedExt_any be _ _ c3 H3.out _ a5 _ E4).mono ?_
    rintro e v7 ⟨rfl, ht, hx⟩
    have D7 := D6.trans (ht.below nbe)
    have P7 := P6.turned ht E4 (by decide)
    clear ht E4 D6 P6
    go_wp2_with fail
    refine (stateOfExt_any _ _).mono ?_
    rintro e v8 ⟨rfl, rfl⟩
    go_wp2_with fail
    refine (extFields_any be pa len1 pc _ zero33 zero33_length zero33_bytes.one 0 true _ hx).mono ?_
    rintro e v9 ⟨rfl, B9⟩
    have B10 : Below v8.heap.size v8 (v9.alloc (.cells zero33.toArray 27)) := B9.alloc B9.size _
    have c10 : (v9.alloc (.cells zero33.toArray 27)).cell? ⟨be, 36, none⟩ = some (.bool true) := by
      rw [B10.cell (p := ⟨be, 36, none⟩) (Array.getElem?_eq_some_iff.1 hx).1, cell_of_row v8 be 36 _ 70 _ hx]; exact extCells_state _ _ _ zero33_length _ _
    have k10 := hidmk (heap_alloc_new v9 (.cells zero33.toArray 27))
    have D10 : Below w.heap.size w (v9.alloc (.cells zero33.toArray 27)) := D7.trans (B10.mono D7.size)
    have P10 := (P7.grown B10).row R1
    have Q10 := w1.grown D10
    clear B9 B10 hx P7 D7
    go_wp2_with (first
      | (refine wpList_alloc_is rfl 27 rfl zero33.toArray zero27 ?_)
      | (refine wpList_store_new rfl 27 _ _ rfl v9 zero33.toArray zero33.toArray rfl rfl rfl i0.out rfl OZ.out ?_)
      | (refine wpList_load_row_g (by rfl) 27 _ rfl v9.heap.size rfl 27 zero33.toArray (0, 0) (.array 33 5) k10.out Trym.underlying27 rfl i0.out ?_)
      | (go_at_call 13; go_in))
    refine (isZeroRef_true _).mono ?_
    rintro e v11 ⟨rfl, B11⟩
    clear c10
    go_wp2_with fail
    refine (sameBytes_below pa a1 len1 pc cap1 z1 _ (P10.grown B11) (Q10.grown B11) NP.out).mono ?_
    rintro e v12 ⟨rfl, _, B12⟩
    have D12 := (D10.trans (B11.mono D10.size)).trans (B12.mono (Nat.le_trans D10.size B11.size))
    clear B11 B12 D10 P10 Q10
    go_wp2
    go_ret
    exact ⟨rfl, D12⟩
  have p1 : (a0 == 1) = false := by simpa using q1
  clear q0 q1
  go_wp2_with fail
  have hlt : w.heap.size < v.heap.size := (Array.getElem?_eq_some_iff.1 J3.out).1
  have S0 : v.drew.rangeAt w.heap.size 0 c3 ∧ w.heap.size < v.drew.heap.size ∧ Below w.heap.size w v.drew := ⟨rangeC_of_row (X := v) J3.out, hlt, B1.drew⟩
  have SV : v.rangeAt w.heap.size 0 c3 ∧ w.heap.size < v.heap.size ∧ Below w.heap.size w v := ⟨rangeC_of_row J3.out, hlt, B1⟩
  have u27 := Trym.underlying27
  have i27 : (Trym.prog.info? 27).map (·.size) = some c3.length := by rw [Trym.info27, H3.out]
  have hl2 := hidmk w2.length
  go_region_held3 (fun w' => w'.rangeAt w.heap.size 0 c3 ∧ w.heap.size < w'.heap.size ∧ Below w.heap.size w w')
    (first | exact S0 | exact keepCD _ SV | (apply keepC <;> assumption) | (apply keepCA; assumption) | assumption)
    (first
      | (go_at_call 22; refine (clone_any a2 len2 cap2 z2 _ (w2.grown ?_) (by omega)).mono ?_; (next => (apply belowC <;> assumption)); rintro e v5 ⟨va, vc, rfl, F3, F4, _⟩)
      | (go_at_call 23; refine (orNil_copy va len2 vc z2 _ hl2.out ?_).mono ?_; (next => (first | exact F4 | exact F4.grown ((Below.refl _ _).alloc (Nat.le_refl _) _))); rintro e v6 ⟨va', vc', rfl, rfl, F5, F6⟩)
      | (go_at_call 8; refine (twoLeaf_any _ _ s0 s1 hs0 hs1 _ _ _ _ _ _ _ _ c3 H3.out _ _ _).mono ?_; rintro e v7 ⟨b0, b2, b1, b5, bb, rfl, T⟩; have T0 := T.below; (have N0 : w.heap.size ≤ bb := by (refine nbC (b := w.heap.size) (cs := c3) ?_ T; assumption)); (have C7 : Copy v7 va' len2 vc' z2 := by (first | exact F5.grown T0 | exact (F5.grown ((Below.refl _ _).alloc (Nat.le_refl _) _)).grown T0))))
  all_goals
    rename_i hHeld
    have D7 := hHeld.2.2
    have hbr := T.br
    have N7 := hidmk N0
    have NV := hidmk F6
    clear hHeld S0 SV u27 i27 F3 F4 F5 F6 T T0 R1 hlt N0
    go_wp2_with fail
    refine (changedBranch_any bb _ _ _ c3 H3.out _ a5 _ hbr).mono ?_
    rintro e v8 ⟨rfl, ht, hx⟩
    have D8 := D7.trans (ht.below N7.out)
    have C8 := C7.turned ht hbr (by decide)
    clear ht hbr D7 C7
    go_wp2_with fail
    refine (stateOfBranch_any _ _).mono ?_
    rintro e v9 ⟨rfl, rfl⟩
    go_wp2_with fail
    refine (brFields_any bb _ _ va' len2 vc' zero33 zero33_length zero33_bytes.one 0 true _ hx).mono ?_
    rintro e v10 ⟨rfl, B10⟩
    have B11 : Below v9.heap.size v9 (v10.alloc (.cells zero33.toArray 27)) := B10.alloc B10.size _
    have c11 : (v10.alloc (.cells zero33.toArray 27)).cell? ⟨bb, 37, none⟩ = some (.bool true) := by
      rw [B11.cell (p := ⟨bb, 37, none⟩) (Array.getElem?_eq_some_iff.1 hx).1, cell_of_row v9 bb 37 _ 81 _ hx]; exact brCells_state _ _ _ _ zero33_length _ _
    have k11 := hidmk (heap_alloc_new v10 (.cells zero33.toArray 27))
    have D11 : Below w.heap.size w (v10.alloc (.cells zero33.toArray 27)) := D8.trans (B11.mono D8.size)
    have C11 := (C8.grown B11).row R2
    have Q11 := w2.grown D11
    clear B10 B11 hx C8 D8
    go_wp2_with (first
      | (refine wpList_alloc_is rfl 27 rfl zero33.toArray zero27 ?_)
      | (refine wpList_store_new rfl 27 _ _ rfl v10 zero33.toArray zero33.toArray rfl rfl rfl i0.out rfl OZ.out ?_)
      | (refine wpList_load_row_g (by rfl) 27 _ rfl v10.heap.size rfl 27 zero33.toArray (0, 0) (.array 33 5) k11.out Trym.underlying27 rfl i0.out ?_)
      | (go_at_call 13; go_in))
    refine (isZeroRef_true _).mono ?_
    rintro e v12 ⟨rfl, B12⟩
    clear c11
    go_wp2_with fail
    refine (orNil_row a2 len2 cap2 z2 _ (Q11.grown B12)).mono ?_
    rintro e v13 ⟨oa, oc, rfl, rfl, R13, n13⟩
    have NO := hidmk n13
    clear n13
    go_wp2_with fail
    refine (sameBytes_below va' oa len2 vc' oc z2 _ (C11.grown B12) R13 (NV.out.trans NO.out.symm)).mono ?_
    rintro e v14 ⟨rfl, _, B14⟩
    have D14 := (D11.trans (B12.mono D11.size)).trans (B14.mono (Nat.le_trans D11.size B12.size))
    clear B12 B14 D11 C11 Q11 R13
    go_wp2
    go_ret
    exact ⟨rfl, D14⟩
end Go.Proofs.Qxb6613289aMods
