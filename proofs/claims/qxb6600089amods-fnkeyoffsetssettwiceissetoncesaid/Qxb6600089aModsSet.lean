/- (*keyOffsets).set: both ways. -/
import Derived.Test.Qxb6600089aModsKO
namespace Go.Proofs.Qxb6600089aMods
open Go.RowKit Go.Maps
set_option linter.unusedSimpArgs false
set_option linter.unusedVariables false

theorem map_set_ints (os : List Int) (j : Nat) (x : Int) : (os.map (Value.int .i64)).set j (.int .i64 x) = (os.set j x).map (Value.int .i64) := by rw [List.map_set]

/-- The blocks of a state are of three kinds. -/
theorem map_ne_cells {w : World} {a b : Nat} {es : Array MapEntry} {c : Nat} {C : Array Value} {t : TypeId} {fr : Nat × Nat} (h : w.heap[a]? = some (.map es c)) (k : w.heap[b]? = some (.cells C t fr)) : a ≠ b := by
  intro e
  subst e
  rw [h] at k
  simp at k
theorem cells_ne {w : World} {a b : Nat} {C D : Array Value} {t u : TypeId} {fr fr' : Nat × Nat} (h : w.heap[a]? = some (.cells C t fr)) (k : w.heap[b]? = some (.cells D u fr')) (hn : t ≠ u) : a ≠ b := by
  intro e
  subst e
  rw [h] at k
  simp only [Option.some.injEq, Obj.cells.injEq] at k
  exact hn k.2.1

theorem KO.drewN {base : Nat} {w : World} {bm : Nat} {gv : Value} {ks : List (List UInt8)} {os : List Int} (E : KO base w bm gv ks os) (n : Nat) : KO base (w.drewN n) bm gv ks os := ⟨E.lb, E.map, E.row, E.len, E.nd, E.wf, E.small⟩

theorem set_found_end {base : Nat} {w : World} {bm bk gr cap pl : Nat} {ks : List (List UInt8)} {os : List Int} {x : Int} (E0 : KO base w bm (.slice (some ⟨gr, 0, none⟩) os.length cap) ks os)
    (hK : w.heap[bk]? = some (.cells #[.map (some bm), .slice (some ⟨gr, 0, none⟩) os.length cap] 50)) (hbk : base ≤ bk) (hx : (Lit.int .i64 x).wf = true) (hbr : base ≤ gr) (nq : Nat) :
    ((w.drewN nq).setCell ⟨gr, pl, none⟩ (.int .i64 x)).heap[bk]? = some (.cells #[.map (some bm), .slice (some ⟨gr, 0, none⟩) os.length cap] 50) ∧
    KO base ((w.drewN nq).setCell ⟨gr, pl, none⟩ (.int .i64 x)) bm (.slice (some ⟨gr, 0, none⟩) os.length cap) ks (os.set pl x) ∧ Below base w ((w.drewN nq).setCell ⟨gr, pl, none⟩ (.int .i64 x)) := by
  have E := E0.drewN nq
  obtain ⟨hst, hgr⟩ := E.row.stored pl (.int .i64 x)
  have hrow : ∃ cur, (w.drewN nq).heap[gr]? = some (.cells cur 2 (0, 0)) := by
    rcases E.row.2 with ⟨h0, _⟩ | ⟨g', cap', cur, h1, h2, h3, _⟩
    · cases h0
    · simp only [Value.slice.injEq, Option.some.injEq, Addr.mk.injEq] at h1
      obtain ⟨⟨rfl, _⟩, _⟩ := h1
      exact ⟨cur, h3⟩
  obtain ⟨cur, hcur⟩ := hrow
  have hK' : (w.drewN nq).heap[bk]? = some (.cells #[.map (some bm), .slice (some ⟨gr, 0, none⟩) os.length cap] 50) := hK
  have n1 : bk ≠ gr := cells_ne hK' hcur (by decide)
  have n2 : bm ≠ gr := by
    obtain ⟨es, c, hb, _⟩ := E.map
    exact map_ne_cells hb hcur
  refine ⟨by rw [Below.heap_setCell _ _ _ _ n1]; exact hK', ⟨E.lb, E.map.setCell n2 _, ?_, by simpa using E.len, E.nd, ?_, E.small⟩, ?_⟩
  · rw [map_set_ints] at hst
    simpa using hst
  · intro z hz
    rcases List.mem_or_eq_of_mem_set hz with h | rfl
    · exact E.wf z h
    · exact hx
  · have hb0 : Below base w (w.drewN nq) := ⟨rfl, rfl, rfl, Nat.le_refl _, fun _ _ => rfl⟩
    exact hb0.setCell hbr _

set_option maxHeartbeats 1000000 in
theorem set_found {base : Nat} {w : World} {bm bk g kc : Nat} {gv : Value} {ks : List (List UInt8)} {os : List Int} {s : List UInt8} {x : Int} (E : KO base w bm gv ks os) (hK : w.heap[bk]? = some (.cells #[.map (some bm), gv] 50)) (hbk : base ≤ bk)
    (hg : KeyAt w g s) (hs : s.length ≤ maxLen) (hx : (Lit.int .i64 x).wf = true) (hm : s ∈ ks) :
    Calls Trym.prog 24 #[.pointer (some ⟨bk, 0, none⟩), .slice (some ⟨g, 0, none⟩) s.length kc, .int .i64 x] w fun e w' => e = .returned (.tuple #[]) ∧
      w'.heap[bk]? = some (.cells #[.map (some bm), gv] 50) ∧ KO base w' bm gv ks (os.set (place ks s) x) ∧ Below base w w' := by
  have hp := place_lt ks s hm
  have hlen := E.len
  have hcv : ∀ n, (convert 34 9 (.slice (some ⟨g, 0, none⟩) s.length kc)).run Trym.prog (w.drewN n) = .ok (.string ⟨s.toArray⟩) (w.drewN n) := fun n => KeyAt.conv (w := w.drewN n) hg kc
  have hlk : ∀ n, (Instr.lookup 27 (.map (some bm)) (.string ⟨s.toArray⟩) true).run Trym.prog (w.drewN n) = .ok (.tuple #[.int .i64 (place ks s : Int), .bool true]) (w.drewN n) := fun n => by
    have E' : KO base (w.drewN n) bm gv ks os := ⟨E.lb, E.map, E.row, E.len, E.nd, E.wf, E.small⟩
    have := E'.look s hs
    simpa [hm] using this
  obtain ⟨gr, cap, cur, rfl, hbr, hcur, hle, hcm, hsz, htk⟩ : ∃ gr cap cur, gv = .slice (some ⟨gr, 0, none⟩) os.length cap ∧ base ≤ gr ∧ w.heap[gr]? = some (.cells cur 2 (0, 0)) ∧ os.length ≤ cap ∧ cap ≤ maxLen ∧ cur.size = cap * 1 ∧ cur.toList.take (os.length * 1) = os.map (Value.int .i64) := by
    rcases E.row.2 with ⟨_, h0⟩ | ⟨gr, cap, cur, h1, h2, h3, h4, h5, h6, h7⟩
    · omega
    · exact ⟨gr, cap, cur, h1, h2, h3, h4, h5, h6, h7⟩
  have c0 : w.cell? ⟨bk, 0, none⟩ = some (.map (some bm)) := by rw [cell_of_row w bk 0 _ 50 _ hK]; rfl
  have c1 : w.cell? ⟨bk, 1, none⟩ = some (.slice (some ⟨gr, 0, none⟩) os.length cap) := by rw [cell_of_row w bk 1 _ 50 _ hK]; rfl
  have hfz : ∀ j, w.frozen? ⟨gr, j, none⟩ = false := fun j => frozen_of_row w gr j _ 2 hcur
  obtain ⟨u, hu⟩ : ∃ u, w.cell? ⟨gr, place ks s, none⟩ = some u := by
    rw [cell_of_row w gr _ _ 2 _ hcur]
    exact ⟨cur[place ks s]'(by omega), Array.getElem?_eq_getElem (by omega)⟩
  have hpl : place ks s < os.length := by omega
  have hm9 : os.length ≤ 5000 := by have := E.small; omega
  generalize hpp : place ks s = pl at *
  have HE := hidmk E
  have HK := hidmk hK
  clear E hK hg hm hcur htk hsz hcm hle
  go_enter Trym.func24, Trym.ntmps24
  go_wp2
  go_quiet (fail)
  go_wp2
  refine bodyPost_ret (results_none rfl _ _ _) rfl ⟨rfl, ?_⟩
  exact set_found_end HE.out HK.out hbk hx hbr nq
end Go.Proofs.Qxb6600089aMods
