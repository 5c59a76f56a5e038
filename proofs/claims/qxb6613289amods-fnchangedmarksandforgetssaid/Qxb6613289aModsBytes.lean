/- Slices of bytes that came in: what is told of them; allNibbles, orNil, the bounds on lengths. -/
import Derived.Test.Qxb6613289aModsTrie
import Derived.ChangeSlices
import Derived.OpenShut
import Derived.Deep.QuietTactic
import Derived.BigQuiet
namespace Go.Proofs.Qxb6613289aMods
open Go.RowKit Go.ChangeShapes Go.WideShapes Go.ChangeAt

/-- A SLICE OF BYTES: the numbers zs are its elements. -/
structure Row8 (w : World) (a : Option Addr) (len cap : Nat) (zs : List Int) : Prop where
  length : zs.length = len
  nil : a = none → len = 0 ∧ cap = 0
  small : cap ≤ maxLen
  le : len ≤ cap
  at_ : len = 0 ∨ ∃ b off, a = some ⟨b, off, none⟩ ∧ b < w.heap.size ∧ ∀ i, i < len → w.cell? ⟨b, off + i, none⟩ = some (.int .u8 (zs.getD i 0))
  bound : ∀ z ∈ zs, 0 ≤ z ∧ z ≤ 255

theorem Row8.grown {w w' : World} {a : Option Addr} {len cap : Nat} {zs : List Int} (h : Row8 w a len cap zs) (hb : Below w.heap.size w w') : Row8 w' a len cap zs := by
  refine ⟨h.length, h.nil, h.small, h.le, ?_, h.bound⟩
  rcases h.at_ with h0 | ⟨b, off, ha, hlt, hc⟩
  · exact Or.inl h0
  · exact Or.inr ⟨b, off, ha, Nat.lt_of_lt_of_le hlt hb.size, fun i hi => by rw [hb.cell (p := ⟨b, off + i, none⟩) hlt]; exact hc i hi⟩

theorem open_row {H : Type} {enc : TypeId × Value → H} {P : Program} {W : World} {t e : TypeId} (ht : P.underlying t = some (.slice e)) (he : P.underlying e = some (.int .u8)) (hc : P.cellsOf e = 1)
    {a : Option Addr} {len cap : Nat} {d : DataW H} {p : List MemPlace} (h : DataW.Trod enc P W 0 (fun _ => true) true t (.slice a len cap) d p) : ∃ zs, Row8 W a len cap zs := by
  obtain ⟨fuel, hf⟩ := h
  rcases open_ints ht he hc hf with ⟨hcs, _⟩ | ⟨x, l, c, zs, hcs, _, hl, hm, hz, _, hcell, hwz⟩
  · simp [Value.cells] at hcs
    obtain ⟨rfl, rfl, rfl⟩ := hcs
    exact ⟨[], rfl, fun _ => ⟨rfl, rfl⟩, by unfold maxLen; omega, Nat.le_refl _, Or.inl rfl, by simp⟩
  · simp [Value.cells] at hcs
    obtain ⟨rfl, rfl, rfl⟩ := hcs
    have hz' : zs.length = cap := by simpa using hz
    refine ⟨zs.take len, by simp; omega, by simp, hm, hl, ?_, ?_⟩
    · by_cases h0 : len = 0
      · exact Or.inl h0
      · right
        obtain ⟨b, off, sp⟩ := x
        have hsp : sp = none := by simpa [Addr.add] using World.cell?_spot (hcell 0 (by omega))
        subst hsp
        refine ⟨b, off, rfl, ?_, fun i hi => ?_⟩
        · have := hcell 0 (by omega)
          exact World.block_lt_of_cell? W _ this
        · have h1 := hcell i (by omega)
          rw [add_plain] at h1
          rw [h1]
          simp [List.getD, hi]
    · intro z hz2
      exact bounds_u8 (hwz z (List.mem_of_mem_take hz2))

theorem ret_bool {x y : Bool} (h : x = y) : Ending.returned (.bool x) = .returned (.bool y) := by rw [h]

/-- Is each a nibble? -/
def nib (zs : List Int) : Bool := zs.all (fun z => decide (z ≤ 15))
theorem nib_take_succ (zs : List Int) (k : Nat) (hk : k < zs.length) : nib (zs.take (k + 1)) = (nib (zs.take k) && decide (zs[k] ≤ 15)) := by
  unfold nib
  rw [List.take_succ_eq_append_getElem hk, List.all_append]
  simp only [List.all_cons, List.all_nil, Bool.and_true]
theorem nib_false (zs : List Int) (k : Nat) (hk : k < zs.length) (h : ¬ zs[k] ≤ 15) : nib zs = false := by
  unfold nib
  rw [List.all_eq_false]
  exact ⟨zs[k], List.getElem_mem hk, by simpa using h⟩

set_option maxHeartbeats 400000 in
theorem allNibbles_any (a : Option Addr) (len cap : Nat) (zs : List Int) (w : World) (h : Row8 w a len cap zs) :
    Calls Trym.prog 20 #[.slice a len cap] w fun e w' => e = .returned (.bool (nib zs)) ∧ w' = w := by
  have hm : len ≤ 9223372036854775807 := by have := h.small; have := h.le; unfold maxLen at *; omega
  have hl := h.length
  rcases h.at_ with h0 | ⟨b, off, rfl, hlt, hc⟩
  · subst h0
    have hz : zs = [] := List.length_eq_zero_iff.1 hl
    subst hz
    clear hl hm h
    go_enter Trym.func20, Trym.ntmps20
    go_wp2
    refine wp_loop_rounds 1 ?_
    rw [rounds_succ]
    go_wp2
    go_ret
    exact ⟨rfl, rfl⟩
  · clear h
    go_enter Trym.func20, Trym.ntmps20
    go_wp2
    go_loop [3] (fun i => ∃ k : Nat, k ≤ len ∧ i = .int .i64 k ∧ nib (zs.take k) = true) (fun i => len - (intOf i).toNat)
    case atStart => exact ⟨0, Nat.zero_le _, rfl, rfl⟩
    case round =>
      obtain ⟨k, hk, rfl, hn⟩ := hrel
      have HN : Hid (nib (zs.take k) = true) := hn
      clear hn
      by_cases hlt2 : k < len
      · have hkz : k < zs.length := by omega
        have hcell : w.cell? ⟨b, off + k, none⟩ = some (.int .u8 zs[k]) := by rw [hc k hlt2]; simp [List.getD, hkz]
        have HL : Hid (zs.length = len) := hl
        clear hc hl
        go_wp2
        · have h15 : 15 < zs[k] := by assumption
          go_ret
          exact ⟨ret_bool (nib_false zs k hkz (by omega)).symm, rfl⟩
        · have h15 : zs[k] ≤ 15 := by assumption
          go_round
          case rel => exact ⟨k + 1, by omega, by go_num, by rw [nib_take_succ zs k hkz, HN.out]; simp [h15]⟩
          case measure => simp [intOf]; omega
      · go_wp2
        go_ret
        have e : zs.take k = zs := List.take_of_length_le (by omega)
        exact ⟨ret_bool (by rw [← e]; exact HN.out.symm), rfl⟩

theorem orNil_zero (a : Option Addr) (cap : Nat) (w : World) :
    Calls Trym.prog 23 #[.slice a 0 cap] w fun e w' => e = .returned (.slice none 0 0) ∧ w' = w := by
  go_enter Trym.func23, Trym.ntmps23
  go_wp2
  go_ret
  exact ⟨rfl, rfl⟩
theorem orNil_some (a : Option Addr) (len cap : Nat) (h0 : 0 < len) (w : World) :
    Calls Trym.prog 23 #[.slice a len cap] w fun e w' => e = .returned (.slice a len cap) ∧ w' = w := by
  have h1 : ((len : Int) == 0) = false := by simp; omega
  go_enter Trym.func23, Trym.ntmps23
  go_wp2
  go_ret
  exact ⟨rfl, rfl⟩
end Go.Proofs.Qxb6613289aMods
