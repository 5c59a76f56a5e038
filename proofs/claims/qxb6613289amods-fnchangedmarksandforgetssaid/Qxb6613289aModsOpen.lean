/- An array of bytes that came in, opened. -/
import Derived.Test.Qxb6613289aModsEq
import Derived.OpenShut
namespace Go.Proofs.Qxb6613289aMods
open Go.RowKit Go.ChangeShapes Go.WideShapes Go.ChangeAt

theorem open_arr {H : Type} {enc : TypeId × Value → H} {P : Program} {W : World} {t e : TypeId} {n : Nat} {r : Reach} {base : Nat} (ht : P.underlying t = some (.array n e)) (he : P.underlying e = some (.int .u8)) (hce : P.cellsOf e = 1) (hct : P.cellsOf t = n)
    {v : Value} {d : DataW H} {p : List MemPlace} (hval : Value.okWide P W r base t v) (h : DataW.Trod enc P W 0 (fun _ => true) true t v d p) : ∃ cs : Array Value, v = .agg cs ∧ (cs.size = n ∧ AllBytes cs.toList) := by
  simp only [Value.okWide, ht] at hval
  obtain ⟨cs, rfl, h2, _⟩ := hval
  rw [hct] at h2
  refine ⟨cs, rfl, h2, ?_⟩
  obtain ⟨fuel, hf⟩ := h
  obtain ⟨xs, m, _, _, hl, hx, hall⟩ := DataW.trod_array ht hf
  intro u hu
  obtain ⟨i, hi, rfl⟩ := List.getElem_of_mem hu
  have hi' : i < n := by simp at hi; omega
  have hg := hall i hi'
  rw [hce, Nat.mul_one] at hg
  have hxi : xs[i]? = some (xs[i]'(by omega)) := List.getElem?_eq_getElem (by omega)
  rw [hxi] at hg
  obtain ⟨z, hz, _⟩ := DataW.trod_int he hg
  have e1 : ((Value.agg cs).cells.toList.drop i).take 1 = [cs.toList[i]] := by
    show (cs.toList.drop i).take 1 = _
    rw [List.drop_eq_getElem_cons hi]
    rfl
  rw [e1] at hz
  simp only [List.cons.injEq, and_true] at hz
  exact ⟨z, hz⟩
end Go.Proofs.Qxb6613289aMods
