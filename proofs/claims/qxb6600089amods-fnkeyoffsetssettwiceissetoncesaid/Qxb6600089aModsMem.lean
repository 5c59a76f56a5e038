/- The state behind later calls; the look-ups. -/
import Derived.Test.Qxb6600089aModsLaws
import Derived.Test.Qxb6600089aModsOver
import Derived.BigQuiet
namespace Go.Proofs.Qxb6600089aMods
open Go.RowKit Go.Maps
set_option linter.unusedSimpArgs false
set_option linter.unusedVariables false

/-- A state stays where only later blocks are written. -/
theorem KO.grown {base : Nat} {w w' : World} {bm : Nat} {gv : Value} {ks : List (List UInt8)} {os : List Int} (E : KO base w bm gv ks os) (hb : Below w.heap.size w w') : KO base w' bm gv ks os := by
  refine ⟨E.lb, ?_, ?_, E.len, E.nd, E.wf, E.small⟩
  · have hlt := E.map.lt
    obtain ⟨es, c, h, r⟩ := E.map
    exact ⟨es, c, by rw [hb.block bm hlt]; exact h, r⟩
  · obtain ⟨h1, h2⟩ := E.row
    refine ⟨h1, ?_⟩
    rcases h2 with h | ⟨g, cap, cur, hv, hg, hh, r⟩
    · exact Or.inl h
    · exact Or.inr ⟨g, cap, cur, hv, hg, by rw [hb.block g (Array.getElem?_eq_some_iff.1 hh).1]; exact hh, r⟩

/-- The offsets' cells. -/
theorem KO.cell {base : Nat} {w : World} {bm : Nat} {ga : Option Addr} {n cp : Nat} {ks : List (List UInt8)} {os : List Int} (E : KO base w bm (.slice ga n cp) ks os) (hp : 0 < os.length) :
    n = os.length ∧ ∃ g, ga = some ⟨g, 0, none⟩ ∧ ∀ p, p < os.length → w.cell? ⟨g, p, none⟩ = some (.int .i64 (os.getD p 0)) := by
  rcases E.row.2 with ⟨_, h⟩ | ⟨g, cap, cur, hv, hg, hh, h4, h5, h6, h7⟩
  · omega
  · simp only [Value.slice.injEq] at hv
    obtain ⟨rfl, rfl, rfl⟩ := hv
    refine ⟨rfl, g, rfl, fun p hp2 => ?_⟩
    rw [cell_of_row w g p _ 2 _ hh]
    have e1 : (cur.toList.take (os.length * 1))[p]? = (os.map (Value.int .i64))[p]? := by rw [h7]
    rw [List.getElem?_take_of_lt (by omega)] at e1
    rw [← Array.getElem?_toList, e1]
    simp [List.getD, hp2]

theorem KO.count {base : Nat} {w : World} {bm : Nat} {gv : Value} {ks : List (List UInt8)} {os : List Int} (E : KO base w bm gv ks os) : (Builtin.len_ #[27] 3 #[.map (some bm)]).run Trym.prog w = .ok (.int .i64 (ks.length : Int)) w := by
  have := E.map.len Trym.underlying27 3
  rwa [size_Dk ks E.nd] at this

/-- What zzLookup answers. -/
theorem lookup_any {base : Nat} {w : World} {bm : Nat} {gv : Value} {ks : List (List UInt8)} {os : List Int} (E : KO base w bm gv ks os) (s : List UInt8) (hs : s.length ≤ maxLen) (hm : s ∈ ks) :
    Calls Trym.prog 15 #[.map (some bm), gv, .string ⟨s.toArray⟩] w fun e w' => e = .returned (.tuple #[.int .i64 (valAt ks os s), .bool true]) ∧ w' = w := by
  obtain ⟨ga, cp, rfl⟩ := shape_of E.row
  have hlk := E.look s hs
  have hp := place_lt ks s hm
  have hl := E.len
  obtain ⟨_, g, rfl, hc⟩ := E.cell (by omega)
  have hc1 := hc (place ks s) (by omega)
  have hsm := E.small
  simp only [hm, decide_true] at hlk
  have hp' : place ks s < os.length := by omega
  have hn : ¬ ((os.length : Int) ≤ (place ks s : Int)) := by omega
  have hn0 : ¬ ((place ks s : Int) < 0) := by omega
  unfold valAt
  generalize place ks s = p at *
  generalize os.getD p 0 = v at *
  clear hc
  have HE := hidmk E
  have HL := hidmk hl
  clear E hl hp
  generalize os.length = L at *
  go_enter Trym.func15, Trym.ntmps15
  go_wp2
  go_ret2
  exact ⟨rfl, rfl⟩

theorem sameLookup_any {base1 base2 : Nat} {w : World} {b1 b2 : Nat} {g1 g2 : Value} {ks1 ks2 : List (List UInt8)} {os1 os2 : List Int} (E1 : KO base1 w b1 g1 ks1 os1) (E2 : KO base2 w b2 g2 ks2 os2) (s : List UInt8) (hs : s.length ≤ maxLen)
    (hiff : s ∈ ks1 ↔ s ∈ ks2) (hv : s ∈ ks1 → valAt ks1 os1 s = valAt ks2 os2 s) :
    Calls Trym.prog 16 #[.map (some b1), g1, .map (some b2), g2, .string ⟨s.toArray⟩] w fun e w' => e = .returned (.bool true) ∧ Below w.heap.size w w' := by
  obtain ⟨ga1, cp1, rfl⟩ := shape_of E1.row
  obtain ⟨ga2, cp2, rfl⟩ := shape_of E2.row
  have hlk1 := E1.look s hs
  have hlk2 := E2.look s hs
  by_cases hm : s ∈ ks1
  · have hm2 := hiff.1 hm
    have hp1 := place_lt ks1 s hm
    have hp2 := place_lt ks2 s hm2
    have hl1 := E1.len
    have hl2 := E2.len
    obtain ⟨_, r1, rfl, hc1⟩ := E1.cell (by omega)
    obtain ⟨_, r2, rfl, hc2⟩ := E2.cell (by omega)
    have hq1 := hc1 (place ks1 s) (by omega)
    have hq2 := hc2 (place ks2 s) (by omega)
    have hs1 := E1.small
    have hs2 := E2.small
    simp only [hm, hm2, decide_true] at hlk1 hlk2
    have hvv := hv hm
    unfold valAt at hvv
    rw [← hvv] at hq2
    have hp1' : place ks1 s < os1.length := by omega
    have hp2' : place ks2 s < os2.length := by omega
    have hn1 : ¬ ((os1.length : Int) ≤ (place ks1 s : Int)) := by omega
    have hn2 : ¬ ((os2.length : Int) ≤ (place ks2 s : Int)) := by omega
    have m1 : os1.length ≤ 5000 := by omega
    have m2 : os2.length ≤ 5000 := by omega
    generalize os1.getD (place ks1 s) 0 = v at *
    clear hc1 hc2 hvv hv hiff E1 E2 hl1 hl2 hp1 hp2 hs1 hs2
    generalize place ks1 s = p1 at *
    generalize place ks2 s = p2 at *
    generalize os1.length = L1 at *
    generalize os2.length = L2 at *
    go_enter Trym.func16, Trym.ntmps16
    go_wp2
    go_quiet (fail)
    go_wp2
    go_ret
    exact ⟨rfl, ⟨rfl, rfl, rfl, Nat.le_refl _, fun _ _ => rfl⟩⟩
  · have hm2 : s ∉ ks2 := fun h => hm (hiff.2 h)
    simp only [hm, hm2, decide_false] at hlk1 hlk2
    clear hiff hv E1 E2
    generalize place ks1 s = p1 at *
    generalize place ks2 s = p2 at *
    generalize os1.length = L1 at *
    generalize os2.length = L2 at *
    go_enter Trym.func16, Trym.ntmps16
    go_wp2
    go_ret
    exact ⟨rfl, Below.refl _ _⟩

theorem samePlace_any {base1 base2 : Nat} {w : World} {b1 b2 : Nat} {g1 g2 : Value} {ks : List (List UInt8)} {os1 os2 : List Int} (E1 : KO base1 w b1 g1 ks os1) (E2 : KO base2 w b2 g2 ks os2) (s : List UInt8) (hs : s.length ≤ maxLen) :
    Calls Trym.prog 18 #[.map (some b1), .map (some b2), .string ⟨s.toArray⟩] w fun e w' => e = .returned (.bool true) ∧ w' = w := by
  have hlk1 := E1.look s hs
  have hlk2 := E2.look s hs
  generalize place ks s = p at *
  generalize decide (s ∈ ks) = d at *
  clear E1 E2
  cases d
  all_goals
    go_enter Trym.func18, Trym.ntmps18
    go_wp2
    go_ret
    exact ⟨rfl, rfl⟩
end Go.Proofs.Qxb6600089aMods
