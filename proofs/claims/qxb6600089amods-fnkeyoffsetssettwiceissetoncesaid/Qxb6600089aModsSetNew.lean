/- (*keyOffsets).set at a key that is new. -/
import Derived.Test.Qxb6600089aModsSet
import Derived.Maps.AppendAt
import Derived.OneCell
namespace Go.Proofs.Qxb6600089aMods
open Go.RowKit Go.Maps
set_option linter.unusedSimpArgs false
set_option linter.unusedVariables false

/-- The shape of an owned slice. -/
theorem shape_of {w : World} {base n : Nat} {v : Value} {xs : List Value} (h : w.ownsRow base 2 1 v n xs) : ∃ (a : Option Addr) (c : Nat), v = .slice a n c := by
  rcases h.2 with ⟨rfl, rfl⟩ | ⟨g, cap, cur, rfl, _⟩
  · exact ⟨none, 0, rfl⟩
  · exact ⟨_, cap, rfl⟩
/-- A block of another kind is not the row's. -/
theorem ownBlock_ne {w : World} {base n b : Nat} {v : Value} {xs : List Value} (h : w.ownsRow base 2 1 v n xs) {C : Array Value} {t : TypeId} {fr : Nat × Nat} (hb : w.heap[b]? = some (.cells C t fr)) (ht : t ≠ 2) : v.ownBlock ≠ some b := by
  rcases h.2 with ⟨rfl, _⟩ | ⟨g, cap, cur, rfl, _, hg, _⟩
  · simp [Value.ownBlock]
  · have := cells_ne hb hg ht
    simp [Value.ownBlock]
    exact fun e => this e.symm
theorem ownBlock_ne_map {w : World} {base n b : Nat} {v : Value} {xs : List Value} (h : w.ownsRow base 2 1 v n xs) {es : Array MapEntry} {c : Nat} (hb : w.heap[b]? = some (.map es c)) : v.ownBlock ≠ some b := by
  rcases h.2 with ⟨rfl, _⟩ | ⟨g, cap, cur, rfl, _, hg, _⟩
  · simp [Value.ownBlock]
  · have := map_ne_cells hb hg
    simp [Value.ownBlock]
    exact fun e => this e.symm
theorem ownBlock_ge {w : World} {base n : Nat} {v : Value} {xs : List Value} (h : w.ownsRow base 2 1 v n xs) : ∀ k, v.ownBlock = some k → base ≤ k := fun k hk => (h.lt k hk).1

theorem after_append {wm w1 : World} {base n bk : Nat} {gv : Value} {xs : List Value} {C : Array Value} (o : Obj) (hK : wm.heap[bk]? = some (.cells C 50)) (hr : wm.ownsRow base 2 1 gv n xs) (hg : (wm.alloc o).grownBy w1 gv.ownBlock) :
    w1.heap[bk]? = some (.cells C 50) := by
  have hlt : bk < wm.heap.size := (Array.getElem?_eq_some_iff.1 hK).1
  rw [hg.block bk (by simp; omega) (fun e => ownBlock_ne hr hK (by decide) e.symm), Below.heap_alloc wm o bk hlt]
  exact hK

/-- The end of the way on which the key is new. -/
theorem set_new_end {base : Nat} {w wm w1 : World} {bm bk : Nat} {gv gv' : Value} {ks : List (List UInt8)} {os : List Int} {s : List UInt8} {x : Int} (o : Obj) (hb : Below base w wm) (hbs : base ≤ wm.heap.size) (hbk : base ≤ bk) (lb : base ≤ bm)
    (hK : wm.heap[bk]? = some (.cells #[.map (some bm), gv] 50)) (hmap : wm.ownsMap (H := Unit) Trym.prog 9 (plainElem Trym.prog 3) bm (ks.length + 1) ((Dk ks).put (klit s) (.lit (.int .i64 (os.length : Int)))))
    (hr : wm.ownsRow base 2 1 gv os.length (os.map (Value.int .i64))) (hr' : w1.ownsRow base 2 1 gv' (os.length + 1) (os.map (Value.int .i64) ++ [.int .i64 x])) (hg : (wm.alloc o).grownBy w1 gv.ownBlock)
    (hlen : os.length = ks.length) (nd : ks.Nodup) (wf : ∀ z ∈ os, (Lit.int .i64 z).wf = true) (hx : (Lit.int .i64 x).wf = true) (hm : s ∉ ks) (hsm : ks.length < 5000) :
    (w1.setCell ⟨bk, 1, none⟩ gv').heap[bk]? = some (.cells #[.map (some bm), gv'] 50) ∧ KO base (w1.setCell ⟨bk, 1, none⟩ gv') bm gv' (s :: ks) (os ++ [x]) ∧ Below base w (w1.setCell ⟨bk, 1, none⟩ gv') := by
  have hK1 := after_append o hK hr hg
  obtain ⟨es, clk, hbm, _⟩ := id hmap
  have n1 : some bm ≠ gv.ownBlock := fun e => ownBlock_ne_map hr hbm e.symm
  have n2 : bm ≠ bk := map_ne_cells hbm hK
  have hm1 := (hmap.alloc o).kept hg n1
  refine ⟨by rw [heap_setCell_same w1 bk 1 _ 50 _ hK1]; rfl, ⟨lb, ?_, ?_, by simp [hlen], by simp [hm, nd], ?_, by simp; omega⟩, ?_⟩
  · have := hm1.setCell (a := ⟨bk, 1, none⟩) n2 gv'
    rw [hlen] at this
    exact this
  · have := ownsRow_setCell_other hr' (a := ⟨bk, 1, none⟩) (ownBlock_ne hr' hK1 (by decide)) gv'
    simpa using this
  · intro z hz
    rcases List.mem_append.1 hz with h | h
    · exact wf z h
    · simp at h; subst h; exact hx
  · have b1 : Below base w (wm.alloc o) := hb.alloc hbs _
    have b2 := b1.grown hg (by simp; omega) (fun k hk => ownBlock_ge hr k hk)
    exact b2.setCell hbk _

set_option maxHeartbeats 2000000 in
theorem set_new {base : Nat} {w : World} {bm bk g kc : Nat} {gv : Value} {ks : List (List UInt8)} {os : List Int} {s : List UInt8} {x : Int} (E : KO base w bm gv ks os) (hK : w.heap[bk]? = some (.cells #[.map (some bm), gv] 50)) (hbk : base ≤ bk)
    (hg : KeyAt w g s) (hs : s.length ≤ maxLen) (hx : (Lit.int .i64 x).wf = true) (hm : s ∉ ks) (hsm : ks.length < 5000) :
    Calls Trym.prog 24 #[.pointer (some ⟨bk, 0, none⟩), .slice (some ⟨g, 0, none⟩) s.length kc, .int .i64 x] w fun e w' => e = .returned (.tuple #[]) ∧ ∃ gv',
      w'.heap[bk]? = some (.cells #[.map (some bm), gv'] 50) ∧ KO base w' bm gv' (s :: ks) (os ++ [x]) ∧ Below base w w' := by
  have hcv : ∀ n, (convert 34 9 (.slice (some ⟨g, 0, none⟩) s.length kc)).run Trym.prog (w.drewN n) = .ok (.string ⟨s.toArray⟩) (w.drewN n) := fun n => KeyAt.conv (w := w.drewN n) hg kc
  have hlk : ∀ n, (Instr.lookup 27 (.map (some bm)) (.string ⟨s.toArray⟩) true).run Trym.prog (w.drewN n) = .ok (.tuple #[.int .i64 (place ks s : Int), .bool false]) (w.drewN n) := fun n => by
    have := (E.drewN n).look s hs
    simpa [hm] using this
  obtain ⟨ga, cap, rfl⟩ := shape_of E.row
  have c0 : w.cell? ⟨bk, 0, none⟩ = some (.map (some bm)) := by rw [cell_of_row w bk 0 _ 50 _ hK]; rfl
  have c1 : w.cell? ⟨bk, 1, none⟩ = some (.slice ga os.length cap) := by rw [cell_of_row w bk 1 _ 50 _ hK]; rfl
  obtain ⟨C, t, fr, hgc, hgb⟩ := hg
  have hlen := E.len
  have hll : os.length ≤ 5000 := by omega
  have HG := hidmk hgb
  have HE := hidmk E
  have HK := hidmk hK
  have HN := hidmk hm
  have hcv3 : ∀ Y : World, Y.heap[g]? = some (.cells C t fr) → (convert 34 9 (.slice (some ⟨g, 0, none⟩) s.length kc)).run Trym.prog Y = .ok (.string ⟨s.toArray⟩) Y := fun Y hY => KeyAt.conv (w := Y) ⟨C, t, fr, hY, hgb⟩ kc
  have HC3 := hidmk hcv3
  have HGC := hidmk hgc
  obtain ⟨i0, hi, hz0, hz1, hz2⟩ := info_parts Trym.info2
  have HI := hidmk hi
  have HL := hidmk hlen
  clear E hK hm hgb hcv3 hgc hlen
  go_enter Trym.func24, Trym.ntmps24
  go_wp2
  go_quiet (fail)
  clear hcv hlk
  go_wp2
  have EW : KO base (w.drewN nq) bm (.slice ga os.length cap) ks os := HE.out.drewN nq
  have hKW : (w.drewN nq).heap[bk]? = some (.cells #[.map (some bm), .slice ga os.length cap] 50) := HK.out
  have hGW : (w.drewN nq).heap[g]? = some (.cells C t fr) := HGC.out
  have hbW : Below base w (w.drewN nq) := ⟨rfl, rfl, rfl, Nat.le_refl _, fun _ _ => rfl⟩
  generalize w.drewN nq = W at *
  clear HE HK HGC c0 c1
  have hcv3 := HC3.out
  have E2 : KO base W.drew bm (.slice ga os.length cap) ks os := EW.drewN 1
  have d0 : W.drew.cell? ⟨bk, 0, none⟩ = some (.map (some bm)) := by rw [cell_of_row W.drew bk 0 _ 50 _ hKW]; rfl
  have d1 : W.drew.cell? ⟨bk, 1, none⟩ = some (.slice ga os.length cap) := by rw [cell_of_row W.drew bk 1 _ 50 _ hKW]; rfl
  have d2 : W.drew.heap[g]? = some (.cells C t fr) := hGW
  obtain ⟨wm, hrun, hownm, hturn⟩ := E2.map.store law9 Trym.underlying27 (by unfold maxLen; omega) (key9 s hs) (plainElem_int (P := Trym.prog) (a := (os.length : Int)) Trym.underlying3 (WalkArith.wf_i64 (by omega)))
  have hgm := hturn.grown
  obtain ⟨es, clk, hbm, _⟩ := E2.map
  have lk : bk < W.drew.heap.size := (Array.getElem?_eq_some_iff.1 hKW).1
  have lg : g < W.drew.heap.size := (Array.getElem?_eq_some_iff.1 hGW).1
  have hKm : wm.heap[bk]? = some (.cells #[.map (some bm), .slice ga os.length cap] 50) := by
    rw [hgm.block bk lk (by simp; exact fun e => map_ne_cells hbm hKW e.symm)]; exact hKW
  have hGm : wm.heap[g]? = some (.cells C t fr) := by
    rw [hgm.block g lg (by simp; exact fun e => map_ne_cells hbm hGW e.symm)]; exact hGW
  have m0 : wm.cell? ⟨bk, 0, none⟩ = some (.map (some bm)) := by rw [cell_of_row wm bk 0 _ 50 _ hKm]; rfl
  have m1 : wm.cell? ⟨bk, 1, none⟩ = some (.slice ga os.length cap) := by rw [cell_of_row wm bk 1 _ 50 _ hKm]; rfl
  have hrm : wm.ownsRow base 2 1 (.slice ga os.length cap) os.length (os.map (Value.int .i64)) := E2.row.kept hgm (Or.inr (ownBlock_ne_map E2.row hbm))
  have hbm' : Below base w wm := (hbW.drew).grown hgm (Nat.le_trans (Nat.le_trans EW.lb (Nat.le_of_lt (Array.getElem?_eq_some_iff.1 hbm).1)) (Nat.le_refl _)) (fun k e => by cases e; exact EW.lb)
  have hbs : base ≤ wm.heap.size := Nat.le_trans (Nat.le_trans EW.lb (Nat.le_of_lt (Array.getElem?_eq_some_iff.1 hbm).1)) hgm.size
  have M1 := hidmk m1
  have HKm := hidmk hKm
  have S0 : W.drew.cell? ⟨bk, 0, none⟩ = some (.map (some bm)) ∧ W.drew.cell? ⟨bk, 1, none⟩ = some (.slice ga os.length cap) ∧ W.drew.heap[g]? = some (.cells C t fr) := ⟨d0, d1, d2⟩
  have S1 : wm.cell? ⟨bk, 0, none⟩ = some (.map (some bm)) ∧ wm.cell? ⟨bk, 1, none⟩ = some (.slice ga os.length cap) ∧ wm.heap[g]? = some (.cells C t fr) := ⟨m0, m1, hGm⟩
  have HW := hidmk hturn
  clear d0 d1 d2 m0 m1 hturn hKm hGm hKW hGW hgm lk lg
  go_region_held3 (fun Y => Y.cell? ⟨bk, 0, none⟩ = some (.map (some bm)) ∧ Y.cell? ⟨bk, 1, none⟩ = some (.slice ga os.length cap) ∧ Y.heap[g]? = some (.cells C t fr))
    (first | exact S0 | exact S1) (fail)
  rename_i hHeld
  have m1 := M1.out
  clear hHeld S0 S1 hrun hcv3
  have HKo := HKm.out
  go_wp2_with (first
    | (at_builtin; refine wpList_append_own _ rfl _ _ 23 rfl base 2 i0 (.int .i64 0) 1 8 Trym.underlying23 HI.out hz0 hz1 hz2 rfl (by decide) (.slice ga os.length cap) os.length (os.map (Value.int .i64)) rfl (hrm.alloc _) ⟨wm.heap.size, 0, none⟩ 1 1 [.int .i64 x] rfl rfl (cell_one_new _ _ _) (ints_oneCell .i64 [x]) (by unfold maxLen; omega) (by omega) (by simp; omega) ?_; intro v' w1 hown' hgrow hnil; obtain ⟨a', c', hv'⟩ := shape_of hown'; rw [hv'] at hown' ⊢; have hK1 := after_append _ HKo hrm hgrow; have e1 : w1.cell? ⟨bk, 1, none⟩ = some (.slice ga os.length cap) := (cell_of_row w1 bk 1 _ 50 _ hK1).trans rfl; have e2 : w1.frozen? ⟨bk, 1, none⟩ = false := frozen_of_row w1 bk 1 _ 50 hK1; have HO := hidmk hown'; have HGR := hidmk hgrow; clear hnil hv' hK1 hown' hgrow))
  go_end0
  refine ⟨rfl, _, set_new_end _ hbm' hbs hbk EW.lb HKm.out hownm hrm HO.out HGR.out HL.out EW.nd EW.wf hx HN.out hsm⟩
end Go.Proofs.Qxb6600089aMods
