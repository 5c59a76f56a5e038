/- Slices of int64 that came in: what is told of them; zzMinInt, zzEntry, follows. -/
import Derived.Test.Qxb6600089aModsRows
import Derived.WalkKit
import Derived.ProofKit
import Derived.OpenShut
import Derived.ChangeSlices
import Derived.Deep.QuietTactic
import Derived.BigQuiet
import Derived.Deep.RegionHeld3
namespace Go.Proofs.Qxb6600089aMods
open Go.RowKit Go.ChangeShapes Go.WideShapes Go.ChangeAt

theorem hidmk {p : Prop} (h : p) : Hid p := h
theorem ret_bool {x y : Bool} (h : x = y) : Ending.returned (.bool x) = .returned (.bool y) := by rw [h]

/-- A SLICE OF int64: the numbers zs are its elements. -/
structure Row64 (w : World) (a : Option Addr) (len cap : Nat) (zs : List Int) : Prop where
  length : zs.length = len
  nil : a = none → len = 0 ∧ cap = 0
  small : cap ≤ maxLen
  le : len ≤ cap
  at_ : len = 0 ∨ ∃ b off, a = some ⟨b, off, none⟩ ∧ b < w.heap.size ∧ ∀ i, i < len → w.cell? ⟨b, off + i, none⟩ = some (.int .i64 (zs.getD i 0))
  wf : ∀ z ∈ zs, (Lit.int .i64 z).wf = true

theorem Row64.grown {w w' : World} {a : Option Addr} {len cap : Nat} {zs : List Int} (h : Row64 w a len cap zs) (hb : Below w.heap.size w w') : Row64 w' a len cap zs := by
  refine ⟨h.length, h.nil, h.small, h.le, ?_, h.wf⟩
  rcases h.at_ with h0 | ⟨b, off, ha, hlt, hc⟩
  · exact Or.inl h0
  · exact Or.inr ⟨b, off, ha, Nat.lt_of_lt_of_le hlt hb.size, fun i hi => by rw [hb.cell (p := ⟨b, off + i, none⟩) hlt]; exact hc i hi⟩

theorem open_row {H : Type} {enc : TypeId × Value → H} {P : Program} {W : World} {t e : TypeId} (ht : P.underlying t = some (.slice e)) (he : P.underlying e = some (.int .i64)) (hc : P.cellsOf e = 1)
    {a : Option Addr} {len cap : Nat} {d : DataW H} {p : List MemPlace} (h : DataW.Trod enc P W 0 (fun _ => true) true t (.slice a len cap) d p) : ∃ zs, Row64 W a len cap zs := by
  obtain ⟨fuel, hf⟩ := h
  rcases open_ints ht he hc hf with ⟨hcs, _⟩ | ⟨x, l, c, zs, hcs, _, hl, hm, hz, _, hcell, hwz⟩
  · simp [Value.cells] at hcs
    obtain ⟨rfl, rfl, rfl⟩ := hcs
    exact ⟨[], rfl, fun _ => ⟨rfl, rfl⟩, by unfold maxLen; omega, Nat.le_refl _, Or.inl rfl, by simp⟩
  · simp [Value.cells] at hcs
    obtain ⟨rfl, rfl, rfl⟩ := hcs
    have hz' : zs.length = cap := by simpa using hz
    refine ⟨zs.take len, by simp; omega, by simp, hm, hl, ?_, ?_⟩
    · by_cases h0 : len = 0
      · exact Or.inl h0
      · right
        obtain ⟨b, off, sp⟩ := x
        have hsp : sp = none := by simpa [Addr.add] using World.cell?_spot (hcell 0 (by omega))
        subst hsp
        refine ⟨b, off, rfl, ?_, fun i hi => ?_⟩
        · have := hcell 0 (by omega)
          exact World.block_lt_of_cell? W _ this
        · have h1 := hcell i (by omega)
          rw [add_plain] at h1
          rw [h1]
          simp [List.getD, hi]
    · intro z hz2
      exact hwz z (List.mem_of_mem_take hz2)

theorem minInt_any (a b : Nat) (w : World) : Calls Trym.prog 11 #[.int .i64 a, .int .i64 b] w fun e w' => e = .returned (.int .i64 ((min a b : Nat) : Int)) ∧ w' = w := by
  by_cases h : a < b
  · have e : min a b = a := by omega
    rw [e]
    go_enter Trym.func11, Trym.ntmps11
    go_wp2
    go_ret
    exact ⟨rfl, rfl⟩
  · have e : min a b = b := by omega
    rw [e]
    go_enter Trym.func11, Trym.ntmps11
    go_wp2
    go_ret
    exact ⟨rfl, rfl⟩

theorem entry_any (ts off : Int) (w : World) : Calls Trym.prog 21 #[.int .i64 ts, .int .i64 off] w fun e w' => e = .returned (.agg #[.int .i64 ts, .int .i64 off]) ∧ Below w.heap.size w w' := by
  go_enter Trym.func21, Trym.ntmps21
  go_wp2
  refine bodyPost_ret (v := .agg #[.int .i64 ts, .int .i64 off]) (by simp [results, Trym.results21, go_sem]) rfl ⟨rfl, ?_⟩
  exact (Below.refl _ _).alloc (Nat.le_refl _) _

theorem below4 (w : World) (A B C D : Obj) : Below w.heap.size w ((((w.alloc A).alloc B).alloc C).alloc D) :=
  ((((Below.refl _ w).alloc (Nat.le_refl _) _).alloc (by simp) _).alloc (by simp; omega) _).alloc (by simp; omega) _

/-- What 'follows' asks of an entry that a writer has made. -/
def Fol (ts off pts poff after at_ bm : Int) : Prop := pts ≤ ts ∧ bm ≤ ts ∧ (ts = pts → off = poff) ∧ (pts < ts → after < off ∧ off ≤ at_)

set_option maxHeartbeats 400000 in
theorem follows_any (ts off pts poff after at_ bm : Int) (w : World) (h : Fol ts off pts poff after at_ bm) :
    Calls Trym.prog 20 #[.agg #[.int .i64 ts, .int .i64 off], .agg #[.int .i64 pts, .int .i64 poff], .int .i64 after, .int .i64 at_, .int .i64 bm] w fun e w' => e = .returned (.bool true) ∧ Below w.heap.size w w' := by
  obtain ⟨h1, h2, h3, h4⟩ := h
  have n1 : ¬ ts < pts := by omega
  have n2 : ¬ ts < bm := by omega
  by_cases e : ts = pts
  · obtain rfl := h3 e
    subst e
    clear h1 h2 h3 h4
    go_enter Trym.func20, Trym.ntmps20
    go_wp2
    go_ret
    exact ⟨rfl, below4 w _ _ _ _⟩
  · have e' : (ts == pts) = false := by simpa using e
    have h5 := h4 (by omega)
    have h6 := h5.1
    have h7 := h5.2
    clear h1 h2 h3 h4 h5 e
    go_enter Trym.func20, Trym.ntmps20
    go_wp2
    go_ret
    exact ⟨rfl, below4 w _ _ _ _⟩
end Go.Proofs.Qxb6600089aMods
