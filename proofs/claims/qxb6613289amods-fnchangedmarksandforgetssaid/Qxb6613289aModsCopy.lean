/- cloneBytes and orNil over every slice of bytes, nil or not. -/
import Derived.Test.Qxb6613289aModsSame
namespace Go.Proofs.Qxb6613289aMods
open Go.RowKit

/-- A COPY OF BYTES: nil, or a row of the call's own. -/
def Copy (w : World) (a : Option Addr) (len cap : Nat) (zs : List Int) : Prop :=
  (a = none ∧ len = 0 ∧ cap = 0 ∧ zs = []) ∨ ∃ g : Nat, a = some ⟨g, 0, none⟩ ∧ cap = len ∧ w.heap[g]? = some (.cells (bytes zs).toArray 5)

theorem Copy.grown {w w' : World} {a : Option Addr} {len cap : Nat} {zs : List Int} (h : Copy w a len cap zs) (hB : Below w.heap.size w w') : Copy w' a len cap zs := by
  rcases h with h | ⟨g, h1, h2, h3⟩
  · exact Or.inl h
  · exact Or.inr ⟨g, h1, h2, by rw [hB.block g (Array.getElem?_eq_some_iff.1 h3).1]; exact h3⟩

/-- A block of another kind is written: the copy stands. -/
theorem Copy.turned {w w' : World} {a : Option Addr} {len cap : Nat} {zs : List Int} (h : Copy w a len cap zs) {b : Nat} (ht : Turned b w w') {C : Array Value} {t : TypeId} (hb : w.heap[b]? = some (.cells C t)) (h5 : 5 ≠ t) : Copy w' a len cap zs := by
  rcases h with h | ⟨g, h1, h2, h3⟩
  · exact Or.inl h
  · refine Or.inr ⟨g, h1, h2, ?_⟩
    rw [ht.other g ?_]
    · exact h3
    · intro e
      subst e
      rw [h3] at hb
      simp only [Option.some.injEq, Obj.cells.injEq] at hb
      exact h5 hb.2.1

theorem Copy.row {w w0 : World} {a a0 : Option Addr} {len cap cap0 : Nat} {zs : List Int} (h : Copy w a len cap zs) (h0 : Row8 w0 a0 len cap0 zs) : Row8 w a len cap zs := by
  rcases h with ⟨rfl, rfl, rfl, rfl⟩ | ⟨g, rfl, rfl, h3⟩
  · exact ⟨rfl, fun _ => ⟨rfl, rfl⟩, by unfold maxLen; omega, Nat.le_refl _, Or.inl rfl, by simp⟩
  · exact row_of_block h0 h3

theorem clone_any (a : Option Addr) (len cap : Nat) (zs : List Int) (w : World) (h : Row8 w a len cap zs) (hs : len ≤ 65536) :
    Calls Trym.prog 22 #[.slice a len cap] w fun e w' => ∃ (a' : Option Addr) (cap' : Nat), e = .returned (.slice a' len cap') ∧ Below w.heap.size w w' ∧ Copy w' a' len cap' zs ∧ a'.isNone = a.isNone := by
  cases a with
  | none =>
    obtain ⟨rfl, rfl⟩ := h.nil rfl
    refine (clone_nil w).mono ?_
    rintro e w' ⟨rfl, rfl⟩
    exact ⟨none, 0, rfl, Below.refl _ _, Or.inl ⟨rfl, rfl, rfl, List.length_eq_zero_iff.1 h.length⟩, rfl⟩
  | some x =>
    refine (clone_some x len cap zs w h hs).mono ?_
    rintro e w' ⟨g, rfl, _, _, hB, hg⟩
    exact ⟨some ⟨g, 0, none⟩, len, rfl, hB, Or.inr ⟨g, rfl, rfl, hg⟩, rfl⟩

/-- orNil of a copy. -/
theorem orNil_copy (a : Option Addr) (len cap : Nat) (zs : List Int) (w : World) (hl : zs.length = len) (h : Copy w a len cap zs) :
    Calls Trym.prog 23 #[.slice a len cap] w fun e w' => ∃ (a' : Option Addr) (cap' : Nat), e = .returned (.slice a' len cap') ∧ w' = w ∧ Copy w a' len cap' zs ∧ a'.isNone = decide (len = 0) := by
  by_cases h0 : len = 0
  · subst h0
    have hz : zs = [] := List.length_eq_zero_iff.1 hl
    refine (orNil_zero a cap w).mono ?_
    rintro e w' ⟨rfl, rfl⟩
    exact ⟨none, 0, rfl, rfl, Or.inl ⟨rfl, rfl, rfl, hz⟩, rfl⟩
  · refine (orNil_some a len cap (by omega) w).mono ?_
    rintro e w' ⟨rfl, rfl⟩
    refine ⟨a, cap, rfl, rfl, h, ?_⟩
    rcases h with ⟨_, h2, _⟩ | ⟨g, rfl, _, _⟩
    · exact absurd h2 h0
    · simp [h0]

/-- orNil of a slice that came in. -/
theorem orNil_row (a : Option Addr) (len cap : Nat) (zs : List Int) (w : World) (h : Row8 w a len cap zs) :
    Calls Trym.prog 23 #[.slice a len cap] w fun e w' => ∃ (a' : Option Addr) (cap' : Nat), e = .returned (.slice a' len cap') ∧ w' = w ∧ Row8 w a' len cap' zs ∧ a'.isNone = decide (len = 0) := by
  by_cases h0 : len = 0
  · subst h0
    refine (orNil_zero a cap w).mono ?_
    rintro e w' ⟨rfl, rfl⟩
    exact ⟨none, 0, rfl, rfl, ⟨h.length, fun _ => ⟨rfl, rfl⟩, by unfold maxLen; omega, Nat.le_refl _, Or.inl rfl, h.bound⟩, rfl⟩
  · refine (orNil_some a len cap (by omega) w).mono ?_
    rintro e w' ⟨rfl, rfl⟩
    refine ⟨a, cap, rfl, rfl, h, ?_⟩
    cases a with
    | none => exact absurd (h.nil rfl).1 h0
    | some x => simp [h0]
end Go.Proofs.Qxb6613289aMods
