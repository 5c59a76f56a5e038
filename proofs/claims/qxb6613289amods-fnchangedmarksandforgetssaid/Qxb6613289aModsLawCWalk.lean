/- The walk of FnStateOfIsTheNodesOwnState. -/
import Derived.Test.Qxb6613289aModsCopy
import Derived.Test.Qxb6613289aModsEq
import Derived.Test.Qxb6613289aModsLawAWalk
import Derived.Test.Qxb6613289aModsBounds
namespace Go.Proofs.Qxb6613289aMods
open Go.RowKit
set_option linter.unusedSimpArgs false
set_option linter.unusedVariables false

theorem hidmk {p : Prop} (h : p) : Hid p := h
theorem Trym.info43 : (Trym.prog.info? 43).map (·.size) = some 32 := by kernel_rfl
theorem Trym.info49 : (Trym.prog.info? 49).map (·.size) = some 32 := by kernel_rfl
attribute [local go_sem] as49_22 as49_28 as49_23 asNil_22 asNil_28 asNil_23

set_option maxHeartbeats 400000 in
theorem stateOfHash_any (c : Array Value) (hc : c.size = 32) (w : World) : Calls Trym.prog 24 #[.agg c] w fun e w' => e = .returned (.pointer none) ∧ Below w.heap.size w w' := by
  go_enter Trym.func24, Trym.ntmps24
  go_wp2_with (first
    | (refine wpList_load_row rfl 49 _ rfl w.heap.size rfl 49 c (0, 0) (.array 32 5) (heap_alloc_new w _) Trym.underlying49 rfl (by rw [Trym.info49, hc]) ?_)
    | go_in)
  go_ret
  exact ⟨rfl, (Below.refl _ _).alloc (Nat.le_refl _) _⟩

theorem stateOfNil_any (w : World) : Calls Trym.prog 25 #[] w fun e w' => e = .returned (.pointer none) ∧ w' = w := by
  go_enter Trym.func25, Trym.ntmps25
  go_wp2
  go_ret
  exact ⟨rfl, rfl⟩

/-! ### what is kept in a region that draws its order: the reference's cells, and all that was there -/
theorem rangeC_of_row {X : World} {b : Nat} {cs : List Value} {t : TypeId} {fr : Nat × Nat} (h : X.heap[b]? = some (.cells cs.toArray t fr)) : X.rangeAt b 0 cs := fun j v hv => by
  rw [cell_of_row X b (0 + j) _ t fr h]
  simpa using hv
theorem keepC {W X Y : World} {b : Nat} {cs : List Value} (hB : Below X.heap.size X Y) (h : X.rangeAt b 0 cs ∧ b < X.heap.size ∧ Below W.heap.size W X) : Y.rangeAt b 0 cs ∧ b < Y.heap.size ∧ Below W.heap.size W Y :=
  ⟨fun j v hv => by rw [hB.cell (p := ⟨b, 0 + j, none⟩) h.2.1]; exact h.1 j v hv, Nat.lt_of_lt_of_le h.2.1 hB.size, h.2.2.trans (hB.mono h.2.2.size)⟩
theorem keepCA {W X : World} {b : Nat} {cs : List Value} (o : Obj) (h : X.rangeAt b 0 cs ∧ b < X.heap.size ∧ Below W.heap.size W X) : (X.alloc o).rangeAt b 0 cs ∧ b < (X.alloc o).heap.size ∧ Below W.heap.size W (X.alloc o) :=
  keepC ((Below.refl _ X).alloc (Nat.le_refl _) _) h
theorem keepCD {W X : World} {b : Nat} {cs : List Value} (o : Obj) (h : X.rangeAt b 0 cs ∧ b < X.heap.size ∧ Below W.heap.size W X) : (X.alloc o).drew.rangeAt b 0 cs ∧ b < (X.alloc o).drew.heap.size ∧ Below W.heap.size W (X.alloc o).drew :=
  keepC ((Below.refl _ X).alloc (Nat.le_refl _) _).drew h
theorem belowC {W X : World} {b : Nat} {cs : List Value} (h : X.rangeAt b 0 cs ∧ b < X.heap.size ∧ Below W.heap.size W X) : Below W.heap.size W X := h.2.2

theorem nbC {W X Y : World} {b : Nat} {cs : List Value} (h : X.rangeAt b 0 cs ∧ b < X.heap.size ∧ Below W.heap.size W X) {b0 b2 b1 b5 bb : Nat} {v0 : Value} {d0 d1 : Bool} {m : Int} {v : Value} {cB : List Value} {n : Int} {d : Bool} (T : TwoLeaf X Y b0 b2 b1 b5 bb v0 d0 d1 m v cB n d) : W.heap.size ≤ bb := by
  have := h.2.2.size; have := T.new; have := T.lt02; have := T.lt21; have := T.lt1b
  omega

set_option maxRecDepth 100000 in
set_option maxHeartbeats 4000000 in
theorem lawC_walk (a0 : Int) (a1 : Option Addr) (len1 cap1 : Nat) (z1 : List Int) (a2 : Option Addr) (len2 cap2 : Nat) (z2 : List Int) (a3 : Array Value) (a4 : Int) (a5 : Bool) (a6 : Array Value) (w : World)
    (w0 : (Lit.int .u8 a0).wf = true) (w1 : Row8 w a1 len1 cap1 z1) (w2 : Row8 w a2 len2 cap2 z2) (w3 : a3.size = 33 ∧ AllBytes a3.toList) (w4 : (Lit.int .u8 a4).wf = true) (w6 : a6.size = 32 ∧ AllBytes a6.toList) :
    Calls Trym.prog 5 #[.int .u8 a0, .slice a1 len1 cap1, .slice a2 len2 cap2, .agg a3, .int .u8 a4, .bool a5, .agg a6] w fun e w' => e = .returned (.bool true) ∧ Below w.heap.size w w' := by
  obtain ⟨c3, rfl⟩ : ∃ l : List Value, a3 = l.toArray := ⟨a3.toList, by simp⟩
  obtain ⟨h3, A3⟩ := w3
  simp only [List.size_toArray] at h3 A3
  have h6 := w6.1
  clear w6 w0 w4
  have m1 : len1 ≤ maxLen := Nat.le_trans w1.le w1.small
  have m2 : len2 ≤ maxLen := Nat.le_trans w2.le w2.small
  have B0 : Below w.heap.size w ((w.alloc (.cells c3.toArray 27)).alloc (.cells a6 43)) := ((Below.refl _ w).alloc (Nat.le_refl _) _).alloc (by simp) _
  have K3 : Hid (((w.alloc (.cells c3.toArray 27)).alloc (.cells a6 43)).heap[w.heap.size]? = some (.cells c3.toArray 27)) := heap_alloc2_old w _ _
  have K6 : Hid (((w.alloc (.cells c3.toArray 27)).alloc (.cells a6 43)).heap[w.heap.size + 1]? = some (.cells a6 43)) := heap_alloc2_new w _ _
  have KS : Hid (((w.alloc (.cells c3.toArray 27)).alloc (.cells a6 43)).heap.size = w.heap.size + 2) := by show _ = _; simp
  have H3 := hidmk h3
  have H6 := hidmk h6
  have I3 : Hid ((Trym.prog.info? 27).map (·.size) = some c3.toArray.size) := by show _ = _; rw [Trym.info27]; simp [h3]
  have I6 : Hid ((Trym.prog.info? 43).map (·.size) = some a6.size) := by show _ = _; rw [Trym.info43]; simp [h6]
  clear h3 h6 A3
  go_enter Trym.func5, Trym.ntmps5
  go_wp2_with (first
    | (refine wpList_load_row rfl 27 _ rfl w.heap.size rfl 27 c3.toArray (0, 0) (.array 33 5) K3.out Trym.underlying27 rfl I3.out ?_)
    | (refine wpList_load_row rfl 43 _ rfl (w.heap.size + 1) rfl 43 a6 (0, 0) (.array 32 5) K6.out Trym.underlying43 rfl I6.out ?_))
  generalize (w.alloc (.cells c3.toArray 27)).alloc (.cells a6 43) = W0 at *
  refine (zz19_any _ _ _ _ _ _ _ _ _ _ _ m1 m2 _).mono ?_
  rintro e v1 ⟨r, rfl, B1'⟩
  have hz : w.heap.size ≤ W0.heap.size := B0.size
  have B1 := B0.trans (B1'.mono hz)
  cases r
  · go_wp2
    go_ret
    exact ⟨rfl, B1⟩
  unfold maxLen at m1 m2
  by_cases l1 : 65536 < len1
  · go_wp2
    go_ret
    exact ⟨rfl, B1⟩
  by_cases l2 : 65536 < len2
  · go_wp2
    go_ret
    exact ⟨rfl, B1⟩
  by_cases r4 : 33 < a4
  · go_wp2
    go_ret
    exact ⟨rfl, B1⟩
  go_wp2_with fail
  refine (allNibbles_any a1 len1 cap1 z1 v1 (w1.grown B1)).mono ?_
  rintro e v ⟨rfl, rfl⟩
  generalize nib z1 = nb
  cases nb
  · go_wp2
    go_ret
    exact ⟨rfl, B1⟩
  have k3 : v.heap[w.heap.size]? = some (.cells c3.toArray 27) := by rw [B1'.block _ (by rw [KS.out]; omega)]; exact K3.out
  have k6 : v.heap[w.heap.size + 1]? = some (.cells a6 43) := by rw [B1'.block _ (by rw [KS.out]; omega)]; exact K6.out
  have R1 := w1.grown B1
  have R2 := w2.grown B1
  have J3 := hidmk k3
  have J6 := hidmk k6
  clear K3 K6 KS B1' B0 k3 k6 hz
  by_cases q0 : a0 = 0
  · subst q0
    by_cases e2 : len2 = 0
    · have e2' : ((len2 : Int) == 0) = true := by simp [e2]
      clear e2
      go_wp2
      go_ret
      exact ⟨rfl, B1⟩
    have e2' : ((len2 : Int) == 0) = false := by simp; omega
    go_wp2_with fail
    refine (clone_any a1 len1 cap1 z1 _ R1 (by omega)).mono ?_
    rintro e v2 ⟨pa, pc, rfl, B2, C2, _⟩
    clear C2
    go_wp2_with fail
    refine (clone_any a2 len2 cap2 z2 _ (R2.grown B2) (by omega)).mono ?_
    rintro e v3 ⟨va, vc, rfl, B3, C3, _⟩
    clear C3
    go_wp2_with fail
    refine (newLeaf_new _ _ _ _ _ _ _ _).mono ?_
    rintro e v4 ⟨bl, rfl, n1, n2, B4, L4⟩
    have D4 : Below w.heap.size w v4 := ((B1.trans (B2.mono B1.size)).trans (B3.mono (Nat.le_trans B1.size B2.size))).trans (B4.mono (Nat.le_trans B1.size (Nat.le_trans B2.size B3.size)))
    have nb : w.heap.size ≤ bl := Nat.le_trans B1.size (Nat.le_trans B2.size (Nat.le_trans B3.size n1))
    clear B2 B3 B4 n1 n2
    go_wp2_with fail
    refine (stateOfLeaf_any _ _).mono ?_
    rintro e v5 ⟨rfl, rfl⟩
    have c5 : v5.cell? ⟨bl, 2, none⟩ = some (.bool a5) := by rw [cell_of_row v5 bl 2 _ 78 _ L4]; rfl
    go_wp2_with (go_at_call 13; go_in)
    clear c5
    refine (changedLeaf_block bl _ _ a5 _ L4).mono ?_
    rintro e v6 ⟨rfl, ht, hx⟩
    have D6 := D4.trans (ht.below nb)
    have c6 : v6.cell? ⟨bl, 2, none⟩ = some (.bool true) := by rw [cell_of_row v6 bl 2 _ 78 _ hx]; rfl
    clear ht hx L4 D4
    go_wp2_with fail
    refine (stateOfLeaf_any _ _).mono ?_
    rintro e v7 ⟨rfl, rfl⟩
    have es := fun a => eql30_same a v7
    go_wp2_with (go_at_call 13; go_in)
    go_ret
    exact ⟨rfl, D6⟩
  have p0 : (a0 == 0) = false := by simpa using q0
  by_cases q1 : a0 = 1
  · subst q1
    clear p0 q0
    by_cases e1 : len1 = 0
    · have e1' : ((len1 : Int) == 0) = true := by simp [e1]
      clear e1
      go_wp2
      go_ret
      exact ⟨rfl, B1⟩
    have e1' : ((len1 : Int) == 0) = false := by simp; omega
    go_wp2_with fail
    have B2 : Below v.heap.size v (v.alloc (.cells #[.int .u8 1] 5)) := (Below.refl _ v).alloc (Nat.le_refl _) _
    refine (clone_any a2 len2 cap2 z2 _ (R2.grown B2) (by omega)).mono ?_
    rintro e v2 ⟨va, vc, rfl, B3, C2, _⟩
    go_wp2_with fail
    refine (orNil_copy va len2 vc z2 _ w2.length C2).mono ?_
    rintro e v3 ⟨va', vc', rfl, rfl, C3, _⟩
    clear C2 C3
    go_wp2_with (refine wpList_build_is rfl 27 [] rfl [] rfl _ built27_zero ?_)
    refine (twoLeaf_any 0 15 _ _ sh0 sh15 _ _ _ _ _ _ _ _ zero33 zero33_length _ _ _).mono ?_
    rintro e v4 ⟨b0, b2, b1, b5, bb, rfl, T⟩
    have D3 : Below v.heap.size v v3 := B2.trans (B3.mono B2.size)
    have D4 : Below v.heap.size v v4 := D3.trans (T.below.mono D3.size)
    have N4 : v.heap.size ≤ bb := by have := D3.size; have := T.new; have := T.lt02; have := T.lt21; have := T.lt1b; omega
    have hlb : bb < v4.heap.size := T.ltb
    have hbr := T.br
    clear T B2 B3 D3
    go_wp2
    have hlt : w.heap.size < v.heap.size := (Array.getElem?_eq_some_iff.1 J3.out).1
    have S0 : v4.drew.rangeAt w.heap.size 0 c3 ∧ w.heap.size < v4.drew.heap.size ∧ Below w.heap.size w v4.drew :=
      keepC (X := v) D4.drew ⟨rangeC_of_row J3.out, hlt, B1⟩
    have u27 := Trym.underlying27
    have i27 : (Trym.prog.info? 27).map (·.size) = some c3.length := by rw [Trym.info27, H3.out]
    have Q1 : Row8 v4.drew a1 len1 cap1 z1 := R1.grown D4.drew
    go_region_held3 (fun w' => w'.rangeAt w.heap.size 0 c3 ∧ w.heap.size < w'.heap.size ∧ Below w.heap.size w w')
      (first | exact S0 | (apply keepC <;> assumption))
      (first
        | (go_at_call 22; refine (clone_any _ _ _ _ _ Q1 (by omega)).mono ?_; rintro e v5 ⟨pa, pc, rfl, F3, F4, _⟩)
        | (go_at_call 9; refine (newExt_new _ _ _ _ c3 H3.out _ _ _).mono ?_; rintro e v6 ⟨be, rfl, E1, E2, E3, E4⟩))
    rename_i hHeld
    have D6 := hHeld.2.2
    have f3 : Below v4.heap.size v4 v5 := ((Below.refl _ v4).drew).trans F3
    have f6 : Below v4.heap.size v4 v6 := f3.trans (E3.mono f3.size)
    have hbr6 := (f6.block bb hlb).trans hbr
    have ne : bb ≠ be := by have := f3.size; omega
    have nbe : w.heap.size ≤ be := by have := f3.size; omega
    clear hHeld S0 u27 i27 Q1 F3 F4 f3 f6 E1 E2 E3 D4 N4 hlb hbr R1 R2 hlt e1' e1
    go_wp2_with fail
    refine (stateOfExt_any _ _).mono ?_
    rintro e v7 ⟨rfl, rfl⟩
    have cE : v7.cell? ⟨be, 36, none⟩ = some (.bool a5) := by rw [cell_of_row v7 be 36 _ 70 _ E4]; exact extCells_state _ _ _ H3.out _ _
    go_wp2_with (go_at_call 13; go_in)
    refine (stateOfBranch_any _ _).mono ?_
    rintro e v8 ⟨rfl, rfl⟩
    have q := eql30_other (o := 37) (o' := 36) hbr6 E4 ne
    clear cE
    go_wp2_with fail
    clear q
    refine (changedExt_any be _ _ c3 H3.out _ a5 _ E4).mono ?_
    rintro e v9 ⟨rfl, ht, hx⟩
    have D9 := D6.trans (ht.below nbe)
    have c9 : v9.cell? ⟨be, 36, none⟩ = some (.bool true) := by rw [cell_of_row v9 be 36 _ 70 _ hx]; exact extCells_state _ _ _ zero33_length _ _
    clear ht hx E4 D6 hbr6
    go_wp2_with fail
    refine (stateOfExt_any _ _).mono ?_
    rintro e v10 ⟨rfl, rfl⟩
    have es := fun a => eql30_same a v10
    go_wp2_with (go_at_call 13; go_in)
    go_ret
    exact ⟨rfl, D9⟩
  have p1 : (a0 == 1) = false := by simpa using q1
  by_cases q2 : a0 = 2
  · subst q2
    clear p0 q0 p1 q1
    go_wp2_with fail
    have hlt : w.heap.size < v.heap.size := (Array.getElem?_eq_some_iff.1 J3.out).1
    have S0 : v.drew.rangeAt w.heap.size 0 c3 ∧ w.heap.size < v.drew.heap.size ∧ Below w.heap.size w v.drew := ⟨rangeC_of_row (X := v) J3.out, hlt, B1.drew⟩
    have SV : v.rangeAt w.heap.size 0 c3 ∧ w.heap.size < v.heap.size ∧ Below w.heap.size w v := ⟨rangeC_of_row J3.out, hlt, B1⟩
    have u27 := Trym.underlying27
    have i27 : (Trym.prog.info? 27).map (·.size) = some c3.length := by rw [Trym.info27, H3.out]
    have hl2 := hidmk w2.length
    go_region_held3 (fun w' => w'.rangeAt w.heap.size 0 c3 ∧ w.heap.size < w'.heap.size ∧ Below w.heap.size w w')
      (first | exact S0 | exact keepCD _ SV | (apply keepC <;> assumption) | (apply keepCA; assumption) | assumption)
      (first
        | (go_at_call 22; refine (clone_any a2 len2 cap2 z2 _ (w2.grown ?_) (by omega)).mono ?_; (next => (apply belowC <;> assumption)); rintro e v5 ⟨va, vc, rfl, F3, F4, _⟩)
        | (go_at_call 23; refine (orNil_copy va len2 vc z2 _ hl2.out ?_).mono ?_; (next => (first | exact F4 | exact F4.grown ((Below.refl _ _).alloc (Nat.le_refl _) _))); rintro e v6 ⟨va', vc', rfl, rfl, F5, _⟩)
        | (go_at_call 8; refine (twoLeaf_any 0 15 _ _ sh0 sh15 _ _ _ _ _ _ _ _ c3 H3.out _ _ _).mono ?_; rintro e v7 ⟨b0, b2, b1, b5, bb, rfl, T⟩; have T0 := T.below; have N0 : w.heap.size ≤ bb := by (refine nbC (b := w.heap.size) (cs := c3) ?_ T; assumption)))
    all_goals
      rename_i hHeld
      have D7 := hHeld.2.2
      have hbr := T.br
      have N7 := hidmk N0
      clear hHeld S0 SV u27 i27 F3 F4 F5 T T0 R1 R2 hlt N0
      go_wp2_with fail
      refine (stateOfBranch_any _ _).mono ?_
      rintro e v8 ⟨rfl, rfl⟩
      have cB : v8.cell? ⟨bb, 37, none⟩ = some (.bool a5) := by rw [cell_of_row v8 bb 37 _ 81 _ hbr]; exact brCells_state _ _ _ _ H3.out _ _
      go_wp2_with (go_at_call 13; go_in)
      clear cB
      refine (changedBranch_any bb _ _ _ c3 H3.out _ a5 _ hbr).mono ?_
      rintro e v9 ⟨rfl, ht, hx⟩
      have D9 := D7.trans (ht.below N7.out)
      have c9 : v9.cell? ⟨bb, 37, none⟩ = some (.bool true) := by rw [cell_of_row v9 bb 37 _ 81 _ hx]; exact brCells_state _ _ _ _ zero33_length _ _
      clear ht hx hbr D7
      go_wp2_with fail
      refine (stateOfBranch_any _ _).mono ?_
      rintro e v10 ⟨rfl, rfl⟩
      have es := fun a => eql30_same a v10
      go_wp2_with (go_at_call 13; go_in)
      go_ret
      exact ⟨rfl, D9⟩
  have p2 : (a0 == 2) = false := by simpa using q2
  by_cases q3 : a0 = 3
  · subst q3
    clear p0 q0 p1 q1 p2 q2
    go_wp2_with (refine wpList_load_row rfl 43 _ rfl (w.heap.size + 1) rfl 43 a6 (0, 0) (.array 32 5) J6.out Trym.underlying43 rfl I6.out ?_)
    refine (stateOfHash_any a6 H6.out _).mono ?_
    rintro e v2 ⟨rfl, B2⟩
    go_wp2
    go_ret
    exact ⟨rfl, B1.trans (B2.mono B1.size)⟩
  have p3 : (a0 == 3) = false := by simpa using q3
  clear q0 q1 q2 q3
  go_wp2_with fail
  refine (stateOfNil_any _).mono ?_
  rintro e v2 ⟨rfl, rfl⟩
  go_wp2
  go_ret
  exact ⟨rfl, B1⟩
end Go.Proofs.Qxb6613289aMods
