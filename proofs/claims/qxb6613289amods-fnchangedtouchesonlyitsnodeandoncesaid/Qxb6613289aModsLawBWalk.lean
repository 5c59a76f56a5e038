/- The walk of FnChangedTouchesOnlyItsNodeAndOnce. -/
import Derived.Test.Qxb6613289aModsLawBEnv
import Derived.Test.Qxb6613289aModsLawAWalk
import Derived.Test.Qxb6613289aModsBounds
import Derived.Deep.DeepCutAuto
namespace Go.Proofs.Qxb6613289aMods
open Go.RowKit
set_option linter.unusedSimpArgs false
set_option linter.unusedVariables false

theorem rangeAt_below {X Y : World} {n b o : Nat} {cs : List Value} (h : X.rangeAt b o cs) (hB : Below n X Y) (hb : b < n) : Y.rangeAt b o cs := fun j v hv => by
  rw [hB.cell (p := ⟨b, o + j, none⟩) hb]
  exact h j v hv
theorem rangeAt_of_row {X : World} {b : Nat} {cs : List Value} {t : TypeId} {fr : Nat × Nat} (h : X.heap[b]? = some (.cells cs.toArray t fr)) : X.rangeAt b 0 cs := fun j v hv => by
  rw [cell_of_row X b (0 + j) _ t fr h]
  simpa using hv
theorem keep_rng {X Y : World} {b o : Nat} {cs : List Value} (h : X.rangeAt b o cs ∧ b < X.heap.size) (hB : Below X.heap.size X Y) : Y.rangeAt b o cs ∧ b < Y.heap.size :=
  ⟨rangeAt_below h.1 hB h.2, Nat.lt_of_lt_of_le h.2 hB.size⟩
theorem below_drew (w : World) (n : Nat) : Below n w w.drew := (Below.refl n w).drew

theorem _root_.Go.RowKit.Hid.mk {p : Prop} (h : p) : Hid p := h

theorem mask15 : bits BinOp.or IntKind.u16 1 32768 = 32769 := by kernel_rfl

/-- Two new rows of 33 cells, each then filled. -/
theorem two_rows (X : World) (p q : Nat) (c1 c2 : List Value) (h1 : c1.length = 33) (h2 : c2.length = 33) (hpq : (p = X.heap.size ∧ q = X.heap.size + 1) ∨ (p = X.heap.size + 1 ∧ q = X.heap.size)) :
    ((X.alloc (.cells zero33.toArray 27)).alloc (.cells zero33.toArray 27)).there p 0 c1.toArray.size ∧ (((X.alloc (.cells zero33.toArray 27)).alloc (.cells zero33.toArray 27)).setCells p 0 c1).there q 0 c2.toArray.size ∧
    Below X.heap.size X ((((X.alloc (.cells zero33.toArray 27)).alloc (.cells zero33.toArray 27)).setCells p 0 c1).setCells q 0 c2) ∧
    ((((X.alloc (.cells zero33.toArray 27)).alloc (.cells zero33.toArray 27)).setCells p 0 c1).setCells q 0 c2).heap[p]? = some (.cells c1.toArray 27) ∧
    ((((X.alloc (.cells zero33.toArray 27)).alloc (.cells zero33.toArray 27)).setCells p 0 c1).setCells q 0 c2).heap[q]? = some (.cells c2.toArray 27) := by
  have f0 : ((X.alloc (.cells zero33.toArray 27)).alloc (.cells zero33.toArray 27)).heap[X.heap.size]? = some (.cells zero33.toArray 27) := heap_alloc2_old X _ _
  have f1 : ((X.alloc (.cells zero33.toArray 27)).alloc (.cells zero33.toArray 27)).heap[X.heap.size + 1]? = some (.cells zero33.toArray 27) := heap_alloc2_new X _ _
  have fB : Below X.heap.size X ((X.alloc (.cells zero33.toArray 27)).alloc (.cells zero33.toArray 27)) := ((Below.refl _ X).alloc (Nat.le_refl _) _).alloc (by simp) _
  generalize (X.alloc (.cells zero33.toArray 27)).alloc (.cells zero33.toArray 27) = Y at *
  have g : Y.heap[p]? = some (.cells zero33.toArray 27) ∧ Y.heap[q]? = some (.cells zero33.toArray 27) ∧ p ≠ q ∧ X.heap.size ≤ p ∧ X.heap.size ≤ q := by
    rcases hpq with ⟨rfl, rfl⟩ | ⟨rfl, rfl⟩
    · exact ⟨f0, f1, by omega, by omega, by omega⟩
    · exact ⟨f1, f0, by omega, by omega, by omega⟩
  obtain ⟨gp, gq, hne, lp, lq⟩ := g
  have tp := there_of_block gp 0 33 (by simp [zero33_length])
  have tq := World.there_setCells (there_of_block gq 0 33 (by simp [zero33_length])) p 0 c1
  have T1 := Turned.setCells p c1 0 Y
  have T2 := Turned.setCells q c2 0 (Y.setCells p 0 c1)
  refine ⟨by simpa [h1] using tp, by simpa [h2] using tq, (fB.trans (T1.below lp)).trans (T2.below lq), ?_, ?_⟩
  · rw [T2.other p hne, heap_setCells p 27 c1 0 Y _ gp (by simp [zero33_length, h1])]
    simp [zero33_length, h1]
  · rw [heap_setCells q 27 c2 0 _ zero33 (by rw [T1.other q (Ne.symm hne)]; exact gq) (by simp [zero33_length, h2])]
    simp [zero33_length, h2]

set_option maxHeartbeats 2000000 in
theorem lawB_walk (a0 : Int) (a1 a2 a3 a4 : Bool) (a5 : Array Value) (a6 : Int) (a7 : Array Value) (a8 : Int) (a9 : Option Addr) (len9 cap9 : Nat) (z9 : List Int) (a10 : Option Addr) (len10 cap10 : Nat) (z10 : List Int) (w : World)
    (w0 : (Lit.int .u8 a0).wf = true) (w5 : a5.size = 33 ∧ AllBytes a5.toList) (w6 : (Lit.int .u8 a6).wf = true) (w7 : a7.size = 33 ∧ AllBytes a7.toList) (w8 : (Lit.int .u8 a8).wf = true) (w9 : Row8 w a9 len9 cap9 z9) (w10 : Row8 w a10 len10 cap10 z10) :
    Calls Trym.prog 7 #[.int .u8 a0, .bool a1, .bool a2, .bool a3, .bool a4, .agg a5, .int .u8 a6, .agg a7, .int .u8 a8, .slice a9 len9 cap9, .slice a10 len10 cap10] w fun e w' => e = .returned (.bool true) ∧ Below w.heap.size w w' := by
  obtain ⟨cE, rfl⟩ : ∃ l : List Value, a5 = l.toArray := ⟨a5.toList, by simp⟩
  obtain ⟨cB, rfl⟩ : ∃ l : List Value, a7 = l.toArray := ⟨a7.toList, by simp⟩
  obtain ⟨hE, aE⟩ := w5
  obtain ⟨hB, aB⟩ := w7
  simp only [List.size_toArray] at hE hB aE aB
  have m9 : len9 ≤ maxLen := Nat.le_trans w9.le w9.small
  have m10 : len10 ≤ maxLen := Nat.le_trans w10.le w10.small
  have B0 : Below w.heap.size w ((w.alloc (.cells cE.toArray 27)).alloc (.cells cB.toArray 27)) := ((Below.refl _ w).alloc (Nat.le_refl _) _).alloc (by simp) _
  have KE : Hid (((w.alloc (.cells cE.toArray 27)).alloc (.cells cB.toArray 27)).heap[w.heap.size]? = some (.cells cE.toArray 27)) := heap_alloc2_old w _ _
  have KB : Hid (((w.alloc (.cells cE.toArray 27)).alloc (.cells cB.toArray 27)).heap[w.heap.size + 1]? = some (.cells cB.toArray 27)) := heap_alloc2_new w _ _
  have KS : Hid (((w.alloc (.cells cE.toArray 27)).alloc (.cells cB.toArray 27)).heap.size = w.heap.size + 2) := by show _ = _; simp
  have HE : Hid (cE.length = 33) := hE
  have HB : Hid (cB.length = 33) := hB
  have IE : Hid ((Trym.prog.info? 27).map (·.size) = some cE.toArray.size) := by show _ = _; rw [Trym.info27]; simp [hE]
  have IB : Hid ((Trym.prog.info? 27).map (·.size) = some cB.toArray.size) := by show _ = _; rw [Trym.info27]; simp [hB]
  have AE : Hid (AllBytes cE) := aE
  have AB : Hid (AllBytes cB) := aB
  clear hE hB aE aB
  go_enter Trym.func7, Trym.ntmps7
  go_wp2_with (first
    | (refine wpList_load_row rfl 27 _ rfl w.heap.size rfl 27 cE.toArray (0, 0) (.array 33 5) KE.out Trym.underlying27 rfl IE.out ?_)
    | (refine wpList_load_row rfl 27 _ rfl (w.heap.size + 1) rfl 27 cB.toArray (0, 0) (.array 33 5) KB.out Trym.underlying27 rfl IB.out ?_))
  generalize (w.alloc (.cells cE.toArray 27)).alloc (.cells cB.toArray 27) = W0 at *
  refine (zz32_any _ _ _ _ _ _ _ _ _ _ _ _ _ _ _ m9 m10 _).mono ?_
  rintro e w1 ⟨r, rfl, B1⟩
  have hz : w.heap.size ≤ W0.heap.size := B0.size
  cases r
  · go_wp2
    go_ret
    exact ⟨rfl, B0.trans (B1.mono hz)⟩
  unfold maxLen at m9 m10
  by_cases l9 : 65536 < len9
  · go_wp2
    go_ret
    exact ⟨rfl, B0.trans (B1.mono hz)⟩
  by_cases l10 : 65536 < len10
  · go_wp2
    go_ret
    exact ⟨rfl, B0.trans (B1.mono hz)⟩
  by_cases r6 : 33 < a6
  · go_wp2
    go_ret
    exact ⟨rfl, B0.trans (B1.mono hz)⟩
  by_cases r8 : 33 < a8
  · go_wp2
    go_ret
    exact ⟨rfl, B0.trans (B1.mono hz)⟩
  by_cases e9 : len9 = 0
  · have e9' : ((len9 : Int) == 0) = true := by simp [e9]
    clear e9
    go_wp2
    go_ret
    exact ⟨rfl, B0.trans (B1.mono hz)⟩
  have e9' : ((len9 : Int) == 0) = false := by simp; omega
  go_wp2_with fail
  have C1 := B0.trans (B1.mono hz)
  refine (allNibbles_any a9 len9 cap9 z9 w1 (w9.grown C1)).mono ?_
  rintro e w2 ⟨rfl, rfl⟩
  generalize nib z9 = nb
  cases nb
  · go_wp2
    go_ret
    exact ⟨rfl, C1⟩
  by_cases e10 : len10 = 0
  · have e10' : ((len10 : Int) == 0) = true := by simp [e10]
    clear e10
    go_wp2
    go_ret
    exact ⟨rfl, C1⟩
  have e10' : ((len10 : Int) == 0) = false := by simp; omega
  go_wp2_with fail
  obtain ⟨x9, rfl⟩ : ∃ x, a9 = some x := by
    cases a9 with
    | none => exact absurd (w9.nil rfl).1 e9
    | some x => exact ⟨x, rfl⟩
  obtain ⟨x10, rfl⟩ : ∃ x, a10 = some x := by
    cases a10 with
    | none => exact absurd (w10.nil rfl).1 e10
    | some x => exact ⟨x, rfl⟩
  clear e9' e10' e9 e10
  have D1 : Below w.heap.size w w2.drew := C1.drew
  have D0 : Below W0.heap.size W0 w2.drew := B1.drew
  have S0 : w2.drew.rangeAt (w.heap.size + 1) 0 cB ∧ w.heap.size + 1 < w2.drew.heap.size := ⟨rangeAt_below (rangeAt_of_row KB.out) D0 (by rw [KS.out]; omega), by have := D0.size; rw [KS.out] at this; omega⟩
  have R9 := w9.grown D1
  have R10 := w10.grown D1
  have u27 := Trym.underlying27
  have i27 : (Trym.prog.info? 27).map (·.size) = some cB.length := by rw [Trym.info27, HB.out]
  have hB := HB.out
  go_region_held3 (fun w' => w'.rangeAt (w.heap.size + 1) 0 cB ∧ w.heap.size + 1 < w'.heap.size)
    (first | exact S0 | exact keep_rng S0 G3 | exact keep_rng (keep_rng S0 G3) T.below)
    (first
      | (go_at_call 22; refine (clone_some _ _ _ _ _ R10 (by omega)).mono ?_; rintro e w3 ⟨gv, rfl, G1, G2, G3, G4⟩)
      | (go_at_call 8; refine (twoLeaf_any 0 15 _ _ sh0 sh15 _ _ _ _ _ _ _ _ cB HB.out _ _ _).mono ?_; rintro e w4 ⟨b0, b2, b1, b5, bb, rfl, T⟩))
  rename_i hHeld
  clear hHeld
  go_wp2
  have Q3 : Below w2.drew.heap.size w2.drew w4 := G3.trans (T.below.mono G3.size)
  have Q0 : Below W0.heap.size W0 w4.drew := (D0.trans (Q3.mono D0.size)).drew
  have S1 : w4.drew.rangeAt w.heap.size 0 cE ∧ w.heap.size < w4.drew.heap.size := ⟨rangeAt_below (rangeAt_of_row KE.out) Q0 (by rw [KS.out]; omega), by have := Q0.size; rw [KS.out] at this; omega⟩
  have P9 : Row8 w4.drew (some x9) len9 cap9 z9 := R9.grown Q3.drew
  have iE : (Trym.prog.info? 27).map (·.size) = some cE.length := by rw [Trym.info27, HE.out]
  have hE := HE.out
  clear S0 R9 R10 i27 hB
  go_region_held3 (fun w' => w'.rangeAt w.heap.size 0 cE ∧ w.heap.size < w'.heap.size)
    (first | exact S1 | exact keep_rng S1 F3 | exact keep_rng (keep_rng S1 F3) E3)
    (first
      | (go_at_call 22; refine (clone_some _ _ _ _ _ P9 (by omega)).mono ?_; rintro e w5 ⟨gp, rfl, F1, F2, F3, F4⟩)
      | (go_at_call 9; refine (newExt_new _ _ _ _ cE HE.out _ _ _).mono ?_; rintro e w6 ⟨be, rfl, E1, E2, E3, E4⟩))
  rename_i hHeld
  clear hHeld S1
  go_wp2_with (refine wpList_alloc_is rfl 27 rfl zero33.toArray zero27 ?_)
  have f3 : Below w4.heap.size w4 w5 := (below_drew w4 _).trans F3
  have X6 : Below w4.heap.size w4 w6 := f3.trans (E3.mono f3.size)
  rw [mask15] at T
  have hs3 : w.heap.size ≤ w3.heap.size := by have := G3.size; have := D1.size; omega
  have T4 := Trie4.ofTwo (N := w.heap.size) T X6 (by have := f3.size; omega) hs3 E4
  have Rv : w6.heap[gv]? = some (.cells (bytes z10).toArray 5) := by rw [X6.block gv (by have := T.below.size; omega), T.below.block gv G2]; exact G4
  have Rp : w6.heap[gp]? = some (.cells (bytes z9).toArray 5) := by rw [E3.block gp F2]; exact F4
  have Y6 : Below W0.heap.size W0 w6 := Q0.trans ((F3.trans (E3.mono F3.size)).mono Q0.size)
  have Z6 : Below w.heap.size w w6 := B0.trans (Y6.mono hz)
  have hS6 : w.heap.size + 2 ≤ w6.heap.size := by have := Y6.size; rw [KS.out] at this; exact this
  have J : Below w6.heap.size w6 (w6.alloc (.cells zero33.toArray 27)) := (Below.refl _ w6).alloc (Nat.le_refl _) _
  have T7 := T4.grown J
  have Rv7 := (J.block gv (Array.getElem?_eq_some_iff.1 Rv).1).trans Rv
  have Rp7 := (J.block gp (Array.getElem?_eq_some_iff.1 Rp).1).trans Rp
  have Z7 : Below w.heap.size w (w6.alloc (.cells zero33.toArray 27)) := Z6.trans (J.mono (by omega))
  have Y7 : Below W0.heap.size W0 (w6.alloc (.cells zero33.toArray 27)) := Y6.trans (J.mono Y6.size)
  have z7 : (w6.alloc (.cells zero33.toArray 27)).heap[w6.heap.size]? = some (.cells zero33.toArray 27) := heap_alloc_new w6 _
  have s7 : (w6.alloc (.cells zero33.toArray 27)).heap.size = w6.heap.size + 1 := by simp
  have k7 : w.heap.size + 2 < w6.heap.size + 1 := by omega
  generalize w6.alloc (.cells zero33.toArray 27) = W7 at *
  generalize w6.heap.size = nz at *
  have sE : W7.rangeAt w.heap.size 0 cE := rangeAt_below (rangeAt_of_row KE.out) Y7 (by rw [KS.out]; omega)
  have sB : W7.rangeAt (w.heap.size + 1) 0 cB := rangeAt_below (rangeAt_of_row KB.out) Y7 (by rw [KS.out]; omega)
  clear B1 C1 D1 D0 u27 G1 G2 G3 G4 T Q3 Q0 P9 F1 F2 F3 F4 E1 E2 E3 E4 f3 X6 hs3 T4 Rv Rp Y6 Z6 hS6 J iE hE
  clear m9 m10 l9 l10
  go_cut [32, 33, 34, 35] (fun s32 s33 s34 s35 wc => ∃ x y : Nat, s32 = .pointer (some ⟨x, 0, none⟩) ∧ s33 = .int .u8 a6 ∧ s34 = .pointer (some ⟨y, 0, none⟩) ∧ s35 = .int .u8 a8 ∧ x ≠ y ∧ W7.heap.size ≤ x ∧ W7.heap.size ≤ y ∧ Below W7.heap.size W7 wc ∧ wc.heap[x]? = some (.cells cE.toArray 27) ∧ wc.heap[y]? = some (.cells cB.toArray 27))
  case first =>
    have u27 := Trym.underlying27
    have iE : (Trym.prog.info? 27).map (·.size) = some cE.length := by rw [Trym.info27, HE.out]
    have iB : (Trym.prog.info? 27).map (·.size) = some cB.length := by rw [Trym.info27, HB.out]
    have hE := HE.out
    have hB := HB.out
    have oE := AE.out.one
    have oB := AB.out.one
    have K0 : W7.drew.rangeAt w.heap.size 0 cE ∧ W7.drew.rangeAt (w.heap.size + 1) 0 cB := ⟨sE, sB⟩
    refine wp_region_held_drew (S := fun w' => w'.rangeAt w.heap.size 0 cE ∧ w'.rangeAt (w.heap.size + 1) 0 cB) (by kernel_rfl) K0 (fun hHeld => ?_)
    refine takeL (i := 0) rfl (v := .agg cE.toArray) (by kernel_rfl) (by kernel_rfl) (by kernel_rfl) (fun _ _ _ h => by exact h) (yieldsIf_load_mid (by rfl) 27 _ rfl w.heap.size 0 rfl cE (.array 33 5) (fun _ h => h.1) u27 rfl iE) K0 ?_
    simp only [Act.put, List.setIfInBounds_toArray, List.set_cons_zero, List.set_cons_succ]
    refine takeL (i := 1) rfl (v := .int .u8 a6) (by kernel_rfl) (by kernel_rfl) (by kernel_rfl) (fun _ _ _ h => by exact h) (Or.inl ⟨by rfl, fun _ _ => rfl⟩) K0 ?_
    simp only [Act.put, List.setIfInBounds_toArray, List.set_cons_zero, List.set_cons_succ]
    refine takeL (i := 2) rfl (v := .agg cB.toArray) (by kernel_rfl) (by kernel_rfl) (by kernel_rfl) (fun _ _ _ h => by exact h) (yieldsIf_load_mid (by rfl) 27 _ rfl (w.heap.size + 1) 0 rfl cB (.array 33 5) (fun _ h => h.2) u27 rfl iB) K0 ?_
    simp only [Act.put, List.setIfInBounds_toArray, List.set_cons_zero, List.set_cons_succ]
    refine takeL (i := 3) rfl (v := .int .u8 a8) (by kernel_rfl) (by kernel_rfl) (by kernel_rfl) (fun _ _ _ h => by exact h) (Or.inl ⟨by rfl, fun _ _ => rfl⟩) K0 ?_
    simp only [Act.put, List.setIfInBounds_toArray, List.set_cons_zero, List.set_cons_succ]
    refine wpAnyH_ready (rs := [4, 5]) (by kernel_rfl) (by simp) (consL rfl (fun K hK => ?_) (consL rfl (fun K hK => ?_) AllReadyH.nil))
    · rw [if_pos (by rfl)]
      refine wp_alloc_is 27 rfl zero33.toArray zero27 (hK.out _ _ ⟨World.rangeAt_alloc K0.1 _, World.rangeAt_alloc K0.2 _⟩ (fun K1 => ?_))
      clear hK K
      simp only [Act.put, List.setIfInBounds_toArray, List.set_cons_zero, List.set_cons_succ]
      refine wpAnyH_ready (rs := [5]) (by kernel_rfl) (by simp) (consL rfl (fun K hK => ?_) AllReadyH.nil)
      rw [if_pos (by rfl)]
      refine wp_alloc_is 27 rfl zero33.toArray zero27 (hK.out _ _ ⟨World.rangeAt_alloc K1.1 _, World.rangeAt_alloc K1.2 _⟩ (fun K2 => ?_))
      clear hK K
      simp only [Act.put, List.setIfInBounds_toArray, List.set_cons_zero, List.set_cons_succ, World.size_alloc]
      obtain ⟨t1, t2, tB, tE, tF⟩ := two_rows W7.drew W7.drew.heap.size (W7.drew.heap.size + 1) cE cB hE hB (by simp)
      refine wpAnyH_ready (rs := [6]) (by kernel_rfl) (by simp) (consL rfl (fun K hK => ?_) AllReadyH.nil)
      rw [if_pos (by rfl)]
      refine wp_store_mid 27 _ _ rfl W7.drew.heap.size 0 cE.toArray rfl rfl t1 IE.out (all_oneCell_toArray oE) (hK.out _ _ ⟨World.rangeAt_setCells_apart K2.1 _ _ _ (Or.inl (by simp; omega)), World.rangeAt_setCells_apart K2.2 _ _ _ (Or.inl (by simp; omega))⟩ (fun K3 => ?_))
      clear hK K
      simp only [Act.put, List.setIfInBounds_toArray, List.set_cons_zero, List.set_cons_succ, List.toList_toArray]
      refine takeL (i := 7) rfl (v := .int .u8 a6) (by kernel_rfl) (by kernel_rfl) (by kernel_rfl) (fun _ _ _ h => by exact h) (Or.inl ⟨by rfl, fun _ _ => rfl⟩) K3 ?_
      simp only [Act.put, List.setIfInBounds_toArray, List.set_cons_zero, List.set_cons_succ]
      refine wpAnyH_ready (rs := [8]) (by kernel_rfl) (by simp) (consL rfl (fun K hK => ?_) AllReadyH.nil)
      rw [if_pos (by rfl)]
      refine wp_store_mid 27 _ _ rfl (W7.drew.heap.size + 1) 0 cB.toArray rfl rfl t2 IB.out (all_oneCell_toArray oB) (hK.out _ _ ⟨World.rangeAt_setCells_apart K3.1 _ _ _ (Or.inl (by simp; omega)), World.rangeAt_setCells_apart K3.2 _ _ _ (Or.inl (by simp; omega))⟩ (fun K4 => ?_))
      clear hK K
      simp only [Act.put, List.setIfInBounds_toArray, List.set_cons_zero, List.set_cons_succ, List.toList_toArray]
      refine takeL (i := 9) rfl (v := .int .u8 a8) (by kernel_rfl) (by kernel_rfl) (by kernel_rfl) (fun _ _ _ h => by exact h) (Or.inl ⟨by rfl, fun _ _ => rfl⟩) K4 ?_
      simp only [Act.put, List.setIfInBounds_toArray, List.set_cons_zero, List.set_cons_succ]
      refine wpAnyH_done (by kernel_rfl) ?_ _
      generalize World.setCells (World.setCells (World.alloc (World.alloc W7.drew _) _) _ _ _) _ _ _ = X4 at tB tE tF ⊢
      have FB := Hid.mk tB
      have FE := Hid.mk tE
      have FF := Hid.mk tF
      clear tB tE tF t1 t2 K0 K1 K2 K3 K4 hHeld sE sB u27 iE iB hE hB oE oB
      simp only [Exit.then]
      go_step
      go_meet
      case rel => exact ⟨W7.drew.heap.size, (W7.drew.heap.size + 1), rfl, rfl, rfl, rfl, by omega, by simp, by simp, (below_drew W7 _).trans FB.out, FE.out, FF.out⟩
    · rw [if_pos (by rfl)]
      refine wp_alloc_is 27 rfl zero33.toArray zero27 (hK.out _ _ ⟨World.rangeAt_alloc K0.1 _, World.rangeAt_alloc K0.2 _⟩ (fun K1 => ?_))
      clear hK K
      simp only [Act.put, List.setIfInBounds_toArray, List.set_cons_zero, List.set_cons_succ]
      refine wpAnyH_ready (rs := [4]) (by kernel_rfl) (by simp) (consL rfl (fun K hK => ?_) AllReadyH.nil)
      rw [if_pos (by rfl)]
      refine wp_alloc_is 27 rfl zero33.toArray zero27 (hK.out _ _ ⟨World.rangeAt_alloc K1.1 _, World.rangeAt_alloc K1.2 _⟩ (fun K2 => ?_))
      clear hK K
      simp only [Act.put, List.setIfInBounds_toArray, List.set_cons_zero, List.set_cons_succ, World.size_alloc]
      obtain ⟨t1, t2, tB, tE, tF⟩ := two_rows W7.drew (W7.drew.heap.size + 1) W7.drew.heap.size cE cB hE hB (by simp)
      refine wpAnyH_ready (rs := [6]) (by kernel_rfl) (by simp) (consL rfl (fun K hK => ?_) AllReadyH.nil)
      rw [if_pos (by rfl)]
      refine wp_store_mid 27 _ _ rfl (W7.drew.heap.size + 1) 0 cE.toArray rfl rfl t1 IE.out (all_oneCell_toArray oE) (hK.out _ _ ⟨World.rangeAt_setCells_apart K2.1 _ _ _ (Or.inl (by simp; omega)), World.rangeAt_setCells_apart K2.2 _ _ _ (Or.inl (by simp; omega))⟩ (fun K3 => ?_))
      clear hK K
      simp only [Act.put, List.setIfInBounds_toArray, List.set_cons_zero, List.set_cons_succ, List.toList_toArray]
      refine takeL (i := 7) rfl (v := .int .u8 a6) (by kernel_rfl) (by kernel_rfl) (by kernel_rfl) (fun _ _ _ h => by exact h) (Or.inl ⟨by rfl, fun _ _ => rfl⟩) K3 ?_
      simp only [Act.put, List.setIfInBounds_toArray, List.set_cons_zero, List.set_cons_succ]
      refine wpAnyH_ready (rs := [8]) (by kernel_rfl) (by simp) (consL rfl (fun K hK => ?_) AllReadyH.nil)
      rw [if_pos (by rfl)]
      refine wp_store_mid 27 _ _ rfl W7.drew.heap.size 0 cB.toArray rfl rfl t2 IB.out (all_oneCell_toArray oB) (hK.out _ _ ⟨World.rangeAt_setCells_apart K3.1 _ _ _ (Or.inl (by simp; omega)), World.rangeAt_setCells_apart K3.2 _ _ _ (Or.inl (by simp; omega))⟩ (fun K4 => ?_))
      clear hK K
      simp only [Act.put, List.setIfInBounds_toArray, List.set_cons_zero, List.set_cons_succ, List.toList_toArray]
      refine takeL (i := 9) rfl (v := .int .u8 a8) (by kernel_rfl) (by kernel_rfl) (by kernel_rfl) (fun _ _ _ h => by exact h) (Or.inl ⟨by rfl, fun _ _ => rfl⟩) K4 ?_
      simp only [Act.put, List.setIfInBounds_toArray, List.set_cons_zero, List.set_cons_succ]
      refine wpAnyH_done (by kernel_rfl) ?_ _
      generalize World.setCells (World.setCells (World.alloc (World.alloc W7.drew _) _) _ _ _) _ _ _ = X4 at tB tE tF ⊢
      have FB := Hid.mk tB
      have FE := Hid.mk tE
      have FF := Hid.mk tF
      clear tB tE tF t1 t2 K0 K1 K2 K3 K4 hHeld sE sB u27 iE iB hE hB oE oB
      simp only [Exit.then]
      go_step
      go_meet
      case rel => exact ⟨(W7.drew.heap.size + 1), W7.drew.heap.size, rfl, rfl, rfl, rfl, by omega, by simp, by simp, (below_drew W7 _).trans FB.out, FE.out, FF.out⟩
  case rest =>
    obtain ⟨x, y, rfl, rfl, rfl, rfl, hxy, hx7, hy7, B8, hx8, hy8⟩ := hcut
    have E8 : EnvB w wc b0 b2 b1 b5 bb be gv gp x y len9 len10 z9 z10 a3 a4 cB a8 a2 cE a6 a1 cE cB :=
      ⟨T7.grown B8, (B8.block gv (Array.getElem?_eq_some_iff.1 Rv7).1).trans Rv7, (B8.block gp (Array.getElem?_eq_some_iff.1 Rp7).1).trans Rp7, hx8, hy8, hxy, by omega, by omega, Z7.trans (B8.mono (by omega))⟩
    have N8 : Hid (wc.heap[nz]? = some (.cells zero33.toArray 27)) := (B8.block nz (by omega)).trans z7
    clear hx8 hy8 hxy B8 hx7 hy7 T7 Rv7 Rp7 Z7 Y7 z7 s7 k7 sE sB KE KB KS hz B0
    have i0 : Hid ((Trym.prog.info? 27).map (·.size) = some zero33.toArray.size) := by show _ = _; rw [Trym.info27]; simp [zero33_length]
    have AZ : Hid (AllBytes zero33) := zero33_bytes
    by_cases q0 : a0 = 0
    · subst q0
      go_wp2_with (first
        | (refine wpList_load_row rfl 27 _ rfl nz rfl 27 zero33.toArray (0, 0) (.array 33 5) N8.out Trym.underlying27 rfl i0.out ?_)
        | (refine wpList_store_mid rfl 27 _ _ rfl x 0 zero33.toArray rfl rfl (there_of_block E8.hx 0 _ (by simp [zero33_length, HE.out])) i0.out (all_oneCell_toArray zero33_bytes.one) ?_))
      have E9 := E8.setX HE.out
      clear E8 N8
      generalize wc.setCells x 0 zero33 = W9 at *
      go_loopw [36] (fun i wr => ∃ k : Nat, k ≤ 2 ∧ i = .int .i64 k ∧ ∃ (cc : List Value) (nn : Int) (dd : Bool), cc.length = 33 ∧ EnvB w wr b0 b2 b1 b5 bb be gv gp x y len9 len10 z9 z10 a3 a4 cB a8 a2 cc nn dd zero33 cB) (fun i _ => 2 - (intOf i).toNat)
      case atStart => exact ⟨0, by omega, rfl, cE, a6, a1, HE.out, E9⟩
      case round =>
        obtain ⟨k, hk, rfl, cc, nn, dd, hcc, E⟩ := hrel
        clear E9
        have HC := Hid.mk hcc
        clear hcc
        by_cases k2 : k < 2
        · go_wp2_with fail
          refine (changedExt_any be _ _ cc HC.out nn dd _ E.T.ex).mono ?_
          rintro e v1 ⟨rfl, ht, hx⟩
          have E1 := E.changedE ht hx
          clear E ht hx
          go_wp2_with (first
            | (refine wpList_load_row rfl 27 _ rfl x rfl 27 zero33.toArray (0, 0) (.array 33 5) E1.hx Trym.underlying27 rfl i0.out ?_)
            | (refine wpList_load_row rfl 27 _ rfl y rfl 27 cB.toArray (0, 0) (.array 33 5) E1.hy Trym.underlying27 rfl IB.out ?_))
          refine (E1.check HB.out zero33_length AB.out zero33_bytes w9 w10).mono ?_
          rintro e v2 ⟨rfl, E2⟩
          clear E1
          go_wp2
          go_roundw
          case rel => exact ⟨k + 1, by omega, by go_num, zero33, 0, true, zero33_length, E2⟩
          case measure => simp [intOf]; omega
        · go_wp2
          go_ret
          exact ⟨rfl, E.bel⟩
    · by_cases q1 : a0 = 1
      · subst q1
        go_wp2_with (first
          | (refine wpList_load_row rfl 27 _ rfl nz rfl 27 zero33.toArray (0, 0) (.array 33 5) N8.out Trym.underlying27 rfl i0.out ?_)
          | (refine wpList_store_mid rfl 27 _ _ rfl y 0 zero33.toArray rfl rfl (there_of_block E8.hy 0 _ (by simp [zero33_length, HB.out])) i0.out (all_oneCell_toArray zero33_bytes.one) ?_))
        have E9 := E8.setY HB.out
        clear E8 N8
        generalize wc.setCells y 0 zero33 = W9 at *
        go_loopw [36] (fun i wr => ∃ k : Nat, k ≤ 2 ∧ i = .int .i64 k ∧ ∃ (cc : List Value) (nn : Int) (dd : Bool), cc.length = 33 ∧ EnvB w wr b0 b2 b1 b5 bb be gv gp x y len9 len10 z9 z10 a3 a4 cc nn dd cE a6 a1 cE zero33) (fun i _ => 2 - (intOf i).toNat)
        case atStart => exact ⟨0, by omega, rfl, cB, a8, a2, HB.out, E9⟩
        case round =>
          obtain ⟨k, hk, rfl, cc, nn, dd, hcc, E⟩ := hrel
          clear E9
          have HC := Hid.mk hcc
          clear hcc
          by_cases k2 : k < 2
          · go_wp2_with fail
            refine (changedBranch_any bb _ _ _ cc HC.out nn dd _ E.T.br).mono ?_
            rintro e v1 ⟨rfl, ht, hx⟩
            have E1 := E.changedB ht hx
            clear E ht hx
            go_wp2_with (first
              | (refine wpList_load_row rfl 27 _ rfl x rfl 27 cE.toArray (0, 0) (.array 33 5) E1.hx Trym.underlying27 rfl IE.out ?_)
              | (refine wpList_load_row rfl 27 _ rfl y rfl 27 zero33.toArray (0, 0) (.array 33 5) E1.hy Trym.underlying27 rfl i0.out ?_))
            refine (E1.check zero33_length HE.out zero33_bytes AE.out w9 w10).mono ?_
            rintro e v2 ⟨rfl, E2⟩
            clear E1
            go_wp2
            go_roundw
            case rel => exact ⟨k + 1, by omega, by go_num, zero33, 0, true, zero33_length, E2⟩
            case measure => simp [intOf]; omega
          · go_wp2
            go_ret
            exact ⟨rfl, E.bel⟩
      · have p0 : (a0 == 0) = false := by simpa using q0
        have p1 : (a0 == 1) = false := by simpa using q1
        clear q0 q1
        go_wp2_with fail
        go_loopw [36] (fun i wr => ∃ k : Nat, k ≤ 2 ∧ i = .int .i64 k ∧ ∃ dd : Bool, EnvB w wr b0 b2 b1 b5 bb be gv gp x y len9 len10 z9 z10 dd a4 cB a8 a2 cE a6 a1 cE cB) (fun i _ => 2 - (intOf i).toNat)
        case atStart => exact ⟨0, by omega, rfl, a3, E8⟩
        case round =>
          obtain ⟨k, hk, rfl, dd, E⟩ := hrel
          clear E8 N8
          by_cases k2 : k < 2
          · go_wp2_with fail
            refine (changedLeaf_block b0 _ _ dd _ E.T.l0).mono ?_
            rintro e v1 ⟨rfl, ht, hx⟩
            have E1 := E.changed0 ht hx
            clear E ht hx
            go_wp2_with (first
              | (refine wpList_load_row rfl 27 _ rfl x rfl 27 cE.toArray (0, 0) (.array 33 5) E1.hx Trym.underlying27 rfl IE.out ?_)
              | (refine wpList_load_row rfl 27 _ rfl y rfl 27 cB.toArray (0, 0) (.array 33 5) E1.hy Trym.underlying27 rfl IB.out ?_))
            refine (E1.check HB.out HE.out AB.out AE.out w9 w10).mono ?_
            rintro e v2 ⟨rfl, E2⟩
            clear E1
            go_wp2
            go_roundw
            case rel => exact ⟨k + 1, by omega, by go_num, true, E2⟩
            case measure => simp [intOf]; omega
          · go_wp2
            go_ret
            exact ⟨rfl, E.bel⟩
end Go.Proofs.Qxb6613289aMods
