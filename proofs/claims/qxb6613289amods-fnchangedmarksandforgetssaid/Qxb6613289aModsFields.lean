/- Contracts of the functions that read a node's fields. -/
import Derived.Test.Qxb6613289aModsTrie
import Derived.Deep.QuietTactic
import Derived.BigQuiet
import Derived.Deep.RegionHeld3
namespace Go.Proofs.Qxb6613289aMods
open Go.RowKit

set_option maxHeartbeats 400000 in
theorem leafFields_any (b : Nat) (pa va : Option Addr) (pn pc vn vc : Nat) (d : Bool) (w : World) (h : w.heap[b]? = some (.cells #[.slice pa pn pc, .slice va vn vc, .bool d] 78)) :
    Calls Trym.prog 27 #[.pointer (some ⟨b, 0, none⟩)] w fun e w' => e = .returned (.tuple #[.slice pa pn pc, .slice va vn vc, .bool d]) ∧ ∃ n, w' = w.drewN n := by
  have g0 : w.cell? ⟨b, 0, none⟩ = some (.slice pa pn pc) := by rw [cell_of_row w b 0 _ 78 _ h]; rfl
  have g1 : w.cell? ⟨b, 1, none⟩ = some (.slice va vn vc) := by rw [cell_of_row w b 1 _ 78 _ h]; rfl
  have g2 : w.cell? ⟨b, 2, none⟩ = some (.bool d) := by rw [cell_of_row w b 2 _ 78 _ h]; rfl
  clear h
  go_enter Trym.func27, Trym.ntmps27
  go_wp2
  go_quiet (fail)
  go_wp2
  go_ret3
  exact ⟨rfl, _, rfl⟩

theorem leafFields_below (b : Nat) (pa va : Option Addr) (pn pc vn vc : Nat) (d : Bool) (w : World) (h : w.heap[b]? = some (.cells #[.slice pa pn pc, .slice va vn vc, .bool d] 78)) :
    Calls Trym.prog 27 #[.pointer (some ⟨b, 0, none⟩)] w fun e w' => e = .returned (.tuple #[.slice pa pn pc, .slice va vn vc, .bool d]) ∧ w'.heap = w.heap ∧ Below w.heap.size w w' := by
  refine (leafFields_any b pa va pn pc vn vc d w h).mono ?_
  rintro e w' ⟨rfl, n, rfl⟩
  exact ⟨rfl, rfl, rfl, rfl, rfl, Nat.le_refl _, fun _ _ => rfl⟩

theorem range_ext {w : World} {b : Nat} {p c : Value} {cs : List Value} (hc : cs.length = 33) {n : Int} {d : Bool} (h : w.heap[b]? = some (.cells (extCells p c cs n d).toArray 70)) : w.rangeAt b 2 cs := fun j v hv => by
  have hj : j < 33 := by have := (List.getElem?_eq_some_iff.1 hv).1; omega
  rw [cell_of_row w b (2 + j) _ 70 _ h]
  simp only [extCells, refCells, List.getElem?_toArray]
  rw [Nat.add_comm]
  have e : cs[j] = v := (List.getElem?_eq_some_iff.1 hv).2
  simp [List.getElem?_append, hc, hj, e]

/-- A cell of another block behind a store of many cells. -/
theorem cell_apart {X : World} {b o : Nat} {u : Value} (h : X.cell? ⟨b, o, none⟩ = some u) {N : Nat} (hne : b ≠ N) (o' : Nat) (vs : List Value) : (X.setCells N o' vs).cell? ⟨b, o, none⟩ = some u := by
  rw [World.cell?_setCells_out N vs o' X ⟨b, o, none⟩ (fun e _ => absurd e hne)]
  exact h

theorem new27 (w : World) : (w.alloc (.cells zero33.toArray 27)).there w.heap.size 0 33 := there_of_block (heap_alloc_new w _) 0 33 (by simp [zero33_length])

set_option maxHeartbeats 1000000 in
theorem extFields_any (b : Nat) (pa : Option Addr) (pn pc : Nat) (c : Value) (cs : List Value) (hc : cs.length = 33) (h1 : ∀ v ∈ cs, v.oneCell' = true) (n : Int) (d : Bool) (w : World) (h : w.heap[b]? = some (.cells (extCells (.slice pa pn pc) c cs n d).toArray 70)) :
    Calls Trym.prog 29 #[.pointer (some ⟨b, 0, none⟩)] w fun e w' => e = .returned (.tuple #[.slice pa pn pc, .agg cs.toArray, .int .u8 n, .bool d]) ∧ Below w.heap.size w w' := by
  have hb : b < w.heap.size := (Array.getElem?_eq_some_iff.1 h).1
  have hne : b ≠ w.heap.size := by omega
  have hW : (w.alloc (.cells zero33.toArray 27)).heap[b]? = some (.cells (extCells (.slice pa pn pc) c cs n d).toArray 70) := by rw [Below.heap_alloc _ _ _ hb]; exact h
  have kB : Below w.heap.size w (w.alloc (.cells zero33.toArray 27)) := (Below.refl _ _).alloc (Nat.le_refl _) _
  have k4 := new27 w
  have kN : Hid ((w.alloc (.cells zero33.toArray 27)).heap[w.heap.size]? = some (.cells zero33.toArray 27 (0, 0))) := heap_alloc_new w _
  have u27 := Trym.underlying27
  have i27 : (Trym.prog.info? 27).map (·.size) = some cs.length := by rw [Trym.info27, hc]
  clear h hb
  go_enter Trym.func29, Trym.ntmps29
  go_wp2
  change Code.wp _ _ _ _ (w.alloc (.cells zero33.toArray 27))
  generalize hNN : w.heap.size = N at *
  generalize w.alloc (.cells zero33.toArray 27) = W at *
  have g0 : W.cell? ⟨b, 0, none⟩ = some (.slice pa pn pc) := by rw [cell_of_row W b 0 _ 70 _ hW]; rfl
  have g1 : W.rangeAt b 2 cs := range_ext hc hW
  have g2 : W.cell? ⟨b, 35, none⟩ = some (.int .u8 n) := by rw [cell_of_row W b 35 _ 70 _ hW]; simp [extCells, refCells, hc]
  have g3 : W.cell? ⟨b, 36, none⟩ = some (.bool d) := by rw [cell_of_row W b 36 _ 70 _ hW]; exact extCells_state _ _ _ hc _ _
  have HN : Hid (w.heap.size = N) := hNN
  clear hW hNN
  go_region_held3 (fun w' => w'.cell? ⟨b, 0, none⟩ = some (.slice pa pn pc) ∧ w'.rangeAt b 2 cs ∧ w'.cell? ⟨b, 35, none⟩ = some (.int .u8 n) ∧ w'.cell? ⟨b, 36, none⟩ = some (.bool d) ∧ w'.there N 0 33)
    (first | exact ⟨g0, g1, g2, g3, k4⟩ | exact ⟨cell_apart (X := W.drew) g0 hne _ _, World.rangeAt_setCells_apart (w := W.drew) g1 _ _ _ (Or.inl hne), cell_apart (X := W.drew) g2 hne _ _, cell_apart (X := W.drew) g3 hne _ _, World.there_setCells (w := W.drew) k4 _ _ _⟩) (fail)
  rename_i hHeld
  clear hHeld
  have k4' : W.drew.there N 0 cs.length := by rw [hc]; exact k4
  have hl := run_loadVar_mid (P := Trym.prog) (W.drew.setCells N 0 cs) N 0 27 cs (.array 33 5) (World.rangeAt_setCells_same W.drew N 0 cs k4') u27 rfl i27
  have hB : Below N w (W.drew.setCells N 0 cs) := kB.drew.trans ((Turned.setCells N cs 0 W.drew).below (Nat.le_refl _))
  clear k4' k4 g0 g1 g2 g3 kN kB u27 i27
  go_wp2
  refine bodyPost_ret (v := .tuple #[.slice pa pn pc, .agg cs.toArray, .int .u8 n, .bool d]) ?_ rfl ⟨rfl, ?_⟩
  · simp [results, Trym.results29, asAddr, hl]
  · rw [HN.out]; exact hB
theorem range_br {w : World} {b : Nat} {p c x : Value} {cs : List Value} (hc : cs.length = 33) {n : Int} {d : Bool} (h : w.heap[b]? = some (.cells (brCells p c x cs n d).toArray 81)) : w.rangeAt b 3 cs := fun j v hv => by
  have hj : j < 33 := by have := (List.getElem?_eq_some_iff.1 hv).1; omega
  rw [cell_of_row w b (3 + j) _ 81 _ h]
  simp only [brCells, refCells, List.getElem?_toArray]
  rw [Nat.add_comm]
  have e : cs[j] = v := (List.getElem?_eq_some_iff.1 hv).2
  simp [List.getElem?_append, hc, hj, e]

set_option maxHeartbeats 1000000 in
theorem brFields_any (b : Nat) (ch : Value) (m : Int) (va : Option Addr) (vn vc : Nat) (cs : List Value) (hc : cs.length = 33) (h1 : ∀ v ∈ cs, v.oneCell' = true) (n : Int) (d : Bool) (w : World) (h : w.heap[b]? = some (.cells (brCells ch (.int .u16 m) (.slice va vn vc) cs n d).toArray 81)) :
    Calls Trym.prog 31 #[.pointer (some ⟨b, 0, none⟩)] w fun e w' => e = .returned (.tuple #[.int .u16 m, .slice va vn vc, .agg cs.toArray, .int .u8 n, .bool d]) ∧ Below w.heap.size w w' := by
  have hb : b < w.heap.size := (Array.getElem?_eq_some_iff.1 h).1
  have hne : b ≠ w.heap.size := by omega
  have hW : (w.alloc (.cells zero33.toArray 27)).heap[b]? = some (.cells (brCells ch (.int .u16 m) (.slice va vn vc) cs n d).toArray 81) := by rw [Below.heap_alloc _ _ _ hb]; exact h
  have kB : Below w.heap.size w (w.alloc (.cells zero33.toArray 27)) := (Below.refl _ _).alloc (Nat.le_refl _) _
  have k4 := new27 w
  have kN : Hid ((w.alloc (.cells zero33.toArray 27)).heap[w.heap.size]? = some (.cells zero33.toArray 27 (0, 0))) := heap_alloc_new w _
  have u27 := Trym.underlying27
  have i27 : (Trym.prog.info? 27).map (·.size) = some cs.length := by rw [Trym.info27, hc]
  clear h hb
  go_enter Trym.func31, Trym.ntmps31
  go_wp2
  change Code.wp _ _ _ _ (w.alloc (.cells zero33.toArray 27))
  generalize hNN : w.heap.size = N at *
  generalize w.alloc (.cells zero33.toArray 27) = W at *
  have gm : W.cell? ⟨b, 1, none⟩ = some (.int .u16 m) := by rw [cell_of_row W b 1 _ 81 _ hW]; rfl
  have g0 : W.cell? ⟨b, 2, none⟩ = some (.slice va vn vc) := by rw [cell_of_row W b 2 _ 81 _ hW]; rfl
  have g1 : W.rangeAt b 3 cs := range_br hc hW
  have g2 : W.cell? ⟨b, 36, none⟩ = some (.int .u8 n) := by rw [cell_of_row W b 36 _ 81 _ hW]; simp [brCells, refCells, hc]
  have g3 : W.cell? ⟨b, 37, none⟩ = some (.bool d) := by rw [cell_of_row W b 37 _ 81 _ hW]; exact brCells_state _ _ _ _ hc _ _
  have HN : Hid (w.heap.size = N) := hNN
  clear hW hNN
  go_region_held3 (fun w' => w'.cell? ⟨b, 1, none⟩ = some (.int .u16 m) ∧ w'.cell? ⟨b, 2, none⟩ = some (.slice va vn vc) ∧ w'.rangeAt b 3 cs ∧ w'.cell? ⟨b, 36, none⟩ = some (.int .u8 n) ∧ w'.cell? ⟨b, 37, none⟩ = some (.bool d) ∧ w'.there N 0 33)
    (first | exact ⟨gm, g0, g1, g2, g3, k4⟩ | exact ⟨cell_apart (X := W.drew) gm hne _ _, cell_apart (X := W.drew) g0 hne _ _, World.rangeAt_setCells_apart (w := W.drew) g1 _ _ _ (Or.inl hne), cell_apart (X := W.drew) g2 hne _ _, cell_apart (X := W.drew) g3 hne _ _, World.there_setCells (w := W.drew) k4 _ _ _⟩) (fail)
  rename_i hHeld
  clear hHeld
  have k4' : W.drew.there N 0 cs.length := by rw [hc]; exact k4
  have hl := run_loadVar_mid (P := Trym.prog) (W.drew.setCells N 0 cs) N 0 27 cs (.array 33 5) (World.rangeAt_setCells_same W.drew N 0 cs k4') u27 rfl i27
  have hB : Below N w (W.drew.setCells N 0 cs) := kB.drew.trans ((Turned.setCells N cs 0 W.drew).below (Nat.le_refl _))
  clear k4' k4 gm g0 g1 g2 g3 kN kB u27 i27
  go_wp2
  refine bodyPost_ret (v := .tuple #[.int .u16 m, .slice va vn vc, .agg cs.toArray, .int .u8 n, .bool d]) ?_ rfl ⟨rfl, ?_⟩
  · simp [results, Trym.results31, asAddr, hl]
  · rw [HN.out]; exact hB
end Go.Proofs.Qxb6613289aMods
