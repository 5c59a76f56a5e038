/- ZZKeyOffsetsSet; zzReplay. -/
import Derived.Test.Qxb6600089aModsSetNew
namespace Go.Proofs.Qxb6600089aMods
open Go.RowKit Go.Maps
set_option linter.unusedSimpArgs false
set_option linter.unusedVariables false

/-- set, both ways in one. -/
theorem set_any {base : Nat} {w : World} {bm bk g kc : Nat} {gv : Value} {ks : List (List UInt8)} {os : List Int} {s : List UInt8} {x : Int} (E : KO base w bm gv ks os) (hK : w.heap[bk]? = some (.cells #[.map (some bm), gv] 50)) (hbk : base ≤ bk)
    (hg : KeyAt w g s) (hs : s.length ≤ maxLen) (hx : (Lit.int .i64 x).wf = true) (hsm : ks.length < 5000) :
    Calls Trym.prog 24 #[.pointer (some ⟨bk, 0, none⟩), .slice (some ⟨g, 0, none⟩) s.length kc, .int .i64 x] w fun e w' => e = .returned (.tuple #[]) ∧ ∃ gv',
      w'.heap[bk]? = some (.cells #[.map (some bm), gv'] 50) ∧ KO base w' bm gv' (setK ks s) (setO ks os s x) ∧ Below base w w' := by
  by_cases hm : s ∈ ks
  · refine (set_found E hK hbk hg hs hx hm).mono ?_
    rintro e w' ⟨rfl, h1, h2, h3⟩
    refine ⟨rfl, gv, h1, ?_, h3⟩
    simpa [setK, setO, hm] using h2
  · refine (set_new E hK hbk hg hs hx hm hsm).mono ?_
    rintro e w' ⟨rfl, gv', h1, h2, h3⟩
    refine ⟨rfl, gv', h1, ?_, h3⟩
    simpa [setK, setO, hm] using h2

theorem KeyAt.alloc {w : World} {g : Nat} {s : List UInt8} (h : KeyAt w g s) (o : Obj) : KeyAt (w.alloc o) g s := by
  obtain ⟨C, t, fr, h1, h2⟩ := h
  exact ⟨C, t, fr, by rw [Below.heap_alloc _ _ _ (Array.getElem?_eq_some_iff.1 h1).1]; exact h1, h2⟩

theorem KO.alloc {base : Nat} {w : World} {bm : Nat} {gv : Value} {ks : List (List UInt8)} {os : List Int} (E : KO base w bm gv ks os) (o : Obj) : KO base (w.alloc o) bm gv ks os := ⟨E.lb, E.map.alloc o, E.row.alloc o, E.len, E.nd, E.wf, E.small⟩
theorem KO.size {base : Nat} {w : World} {bm : Nat} {gv : Value} {ks : List (List UInt8)} {os : List Int} (E : KO base w bm gv ks os) : base ≤ w.heap.size := by
  obtain ⟨es, c, hb, _⟩ := E.map
  have := (Array.getElem?_eq_some_iff.1 hb).1
  have := E.lb
  omega

set_option maxHeartbeats 1000000 in
theorem zset_any {base : Nat} {w : World} {bm g kc : Nat} {gv : Value} {ks : List (List UInt8)} {os : List Int} {s : List UInt8} {x : Int} (E : KO base w bm gv ks os)
    (hg : KeyAt w g s) (hs : s.length ≤ maxLen) (hx : (Lit.int .i64 x).wf = true) (hsm : ks.length < 5000) :
    Calls Trym.prog 14 #[.map (some bm), gv, .slice (some ⟨g, 0, none⟩) s.length kc, .int .i64 x] w fun e w' => ∃ gv', e = .returned (.tuple #[.map (some bm), gv']) ∧
      KO base w' bm gv' (setK ks s) (setO ks os s x) ∧ Below base w w' := by
  obtain ⟨ga, cap, rfl⟩ := shape_of E.row
  have hb0 : Below base w (w.alloc (.cells #[.map (some bm), .slice ga os.length cap] 50)) := (Below.refl _ w).alloc E.size _
  go_enter Trym.func14, Trym.ntmps14
  go_wp2_with fail
  refine (set_any (E.alloc _) (heap_alloc_new w _) E.size (hg.alloc _) hs hx hsm).mono ?_
  rintro e w1 ⟨rfl, gv', hK1, E1, B1⟩
  obtain ⟨ga', cap', rfl⟩ := shape_of E1.row
  have c0 : w1.cell? ⟨w.heap.size, 0, none⟩ = some (.map (some bm)) := (cell_of_row w1 _ 0 _ 50 _ hK1).trans rfl
  have c1 : w1.cell? ⟨w.heap.size, 1, none⟩ = some (.slice ga' (setO ks os s x).length cap') := (cell_of_row w1 _ 1 _ 50 _ hK1).trans rfl
  have HB := hidmk (hb0.trans B1)
  have HE := hidmk E1
  clear E E1 B1 hb0 hK1 hg
  go_wp2
  go_quiet (fail)
  go_wp2
  go_ret2
  exact ⟨_, rfl, HE.out.drewN _, ⟨HB.out.os, HB.out.tape, HB.out.output, HB.out.size, HB.out.block⟩⟩
end Go.Proofs.Qxb6600089aMods
