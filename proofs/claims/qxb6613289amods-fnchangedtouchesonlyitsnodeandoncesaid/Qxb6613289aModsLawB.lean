/-
  THE PROOF OF 'Rows.FnChangedTouchesOnlyItsNodeAndOnceSaid': the row's step, after the program-written shell's make (the world behind the call told by 'Below'); the walk lies in the texts that are imported.
-/
import Derived.Test.Qxb6613289aModsLawBWalk
import Derived.Test.Qxb6613289aModsOpen
import Derived.ShutString
import Derived.ChangeOld
import Derived.Below
namespace Go.Proofs.Qxb6613289aMods.lawB
open Go.ChangeShapes Go.WideShapes Go.ChangeAt Go.RowKit
open Go.ChangeMaps (open_string shut_string)
set_option linter.unusedVariables false

theorem own : ownKnob Trym.prog.godebug = none := by kernel_rfl
theorem laidOut : laidOutB Trym.prog = true := by kernel_rfl

set_option maxRecDepth 100000 in
theorem lifted (os : Os) (started : os.Started) (H : Type) (enc : TypeId × Value → H) :
    ReturnsInHanded {} Trym.checked os 7 .any (Rows.fnChangedTouchesOnlyItsNodeAndOnceSpec.pre6 enc Trym.prog Trym.f7 Rows.fnChangedTouchesOnlyItsNodeAndOnceRow.domain false) (Rows.fnChangedTouchesOnlyItsNodeAndOnceSpec.post enc Trym.prog Trym.f7 false true false false) := by
  refine returnsInHanded_of_change (C := Trym.checked) own started (by kernel_rfl) Trym.func7
    (ChangeSpec.witness6 (enc := enc) (C := Trym.checked) false ⟨#[], #[.int .u8 0, .bool false, .bool false, .bool false, .bool false, .agg (Array.replicate 33 (.int .u8 0)), .int .u8 0, .agg (Array.replicate 33 (.int .u8 0)), .int .u8 0, .slice none 0 0, .slice none 0 0], []⟩ 8 (by kernel_rfl) (by kernel_rfl) (by kernel_rfl) (by kernel_rfl)) ?_
  intro W base args ds gs before hval0 hW hcnd _
  have hval : ∀ (j : Nat) t v, Trym.f7.params[j]? = some t → args[j]? = some v → Value.okWide Trym.prog W .any base t v := hval0
  have hW' := hW
  obtain ⟨p, q, hA0, hV, rfl, hfz, hnd⟩ := hW
  have hA : DataW.TrodAll enc Trym.prog W 0 (fun _ => true) true Trym.f7.params.toList args.toList ds p := hA0
  rw [Trym.params7] at hA hval
  obtain ⟨v0, vs0, d0, ds0, p0, q0, hargs, rfl, rfl, h0, r0⟩ := trodAll_cons hA
  obtain ⟨v1, vs1, d1, ds1, p1, q1, rfl, rfl, rfl, h1, r1⟩ := trodAll_cons r0
  obtain ⟨v2, vs2, d2, ds2, p2, q2, rfl, rfl, rfl, h2, r2⟩ := trodAll_cons r1
  obtain ⟨v3, vs3, d3, ds3, p3, q3, rfl, rfl, rfl, h3, r3⟩ := trodAll_cons r2
  obtain ⟨v4, vs4, d4, ds4, p4, q4, rfl, rfl, rfl, h4, r4⟩ := trodAll_cons r3
  obtain ⟨v5, vs5, d5, ds5, p5, q5, rfl, rfl, rfl, h5, r5⟩ := trodAll_cons r4
  obtain ⟨v6, vs6, d6, ds6, p6, q6, rfl, rfl, rfl, h6, r6⟩ := trodAll_cons r5
  obtain ⟨v7, vs7, d7, ds7, p7, q7, rfl, rfl, rfl, h7, r7⟩ := trodAll_cons r6
  obtain ⟨v8, vs8, d8, ds8, p8, q8, rfl, rfl, rfl, h8, r8⟩ := trodAll_cons r7
  obtain ⟨v9, vs9, d9, ds9, p9, q9, rfl, rfl, rfl, h9, r9⟩ := trodAll_cons r8
  obtain ⟨v10, vs10, d10, ds10, p10, q10, rfl, rfl, rfl, h10, r10⟩ := trodAll_cons r9
  obtain ⟨rfl, rfl, rfl⟩ := trodAll_nil r10
  obtain rfl : args = #[v0, v1, v2, v3, v4, v5, v6, v7, v8, v9, v10] := by cases args; simp_all
  obtain ⟨rfl, rfl⟩ := trodVars_none hV
  obtain ⟨a0, rfl, rfl, rfl, w0⟩ := open_int Trym.underlying5 (hval 0 5 v0 rfl rfl) h0
  obtain ⟨a1, rfl, rfl, rfl⟩ := open_bool Trym.underlying4 (hval 1 4 v1 rfl rfl) h1
  obtain ⟨a2, rfl, rfl, rfl⟩ := open_bool Trym.underlying4 (hval 2 4 v2 rfl rfl) h2
  obtain ⟨a3, rfl, rfl, rfl⟩ := open_bool Trym.underlying4 (hval 3 4 v3 rfl rfl) h3
  obtain ⟨a4, rfl, rfl, rfl⟩ := open_bool Trym.underlying4 (hval 4 4 v4 rfl rfl) h4
  obtain ⟨a5, rfl, w5⟩ := open_arr Trym.underlying27 Trym.underlying5 (by kernel_rfl) (by kernel_rfl) (hval 5 27 v5 rfl rfl) h5
  have k5 := h5
  have lt5 : ∀ x ∈ p5, x.block < W.heap.size := by obtain ⟨m, hm⟩ := k5; exact DataW.trod_lt m _ _ _ hm
  obtain ⟨a6, rfl, rfl, rfl, w6⟩ := open_int Trym.underlying5 (hval 6 5 v6 rfl rfl) h6
  obtain ⟨a7, rfl, w7⟩ := open_arr Trym.underlying27 Trym.underlying5 (by kernel_rfl) (by kernel_rfl) (hval 7 27 v7 rfl rfl) h7
  have k7 := h7
  have lt7 : ∀ x ∈ p7, x.block < W.heap.size := by obtain ⟨m, hm⟩ := k7; exact DataW.trod_lt m _ _ _ hm
  obtain ⟨a8, rfl, rfl, rfl, w8⟩ := open_int Trym.underlying5 (hval 8 5 v8 rfl rfl) h8
  obtain ⟨a9, len9, cap9, rfl⟩ := okWide_slice Trym.underlying26 (hval 9 26 v9 rfl rfl)
  have k9 := h9
  have lt9 : ∀ x ∈ p9, x.block < W.heap.size := by obtain ⟨m, hm⟩ := k9; exact DataW.trod_lt m _ _ _ hm
  obtain ⟨z9, w9⟩ := open_row Trym.underlying26 Trym.underlying5 (by kernel_rfl) h9
  obtain ⟨a10, len10, cap10, rfl⟩ := okWide_slice Trym.underlying26 (hval 10 26 v10 rfl rfl)
  have k10 := h10
  have lt10 : ∀ x ∈ p10, x.block < W.heap.size := by obtain ⟨m, hm⟩ := k10; exact DataW.trod_lt m _ _ _ hm
  obtain ⟨z10, w10⟩ := open_row Trym.underlying26 Trym.underlying5 (by kernel_rfl) h10
  clear hA0 hval0
  refine (lawB_walk a0 a1 a2 a3 a4 a5 a6 a7 a8 a9 len9 cap9 z9 a10 len10 cap10 z10 W w0 w5 w6 w7 w8 w9 w10).mono fun e W' ⟨he, bel⟩ => ?_
  subst he
  exact ⟨_, rfl, _, _, _, [], _, [], hW', trodAll_mk1 (shut_bool Trym.underlying4 _), (trodAll_cons_mk (shut_int Trym.underlying5 w0) (trodAll_cons_mk (shut_bool Trym.underlying4 _) (trodAll_cons_mk (shut_bool Trym.underlying4 _) (trodAll_cons_mk (shut_bool Trym.underlying4 _) (trodAll_cons_mk (shut_bool Trym.underlying4 _) (trodAll_cons_mk (Below.trod laidOut (by kernel_rfl) (of_decide_eq_true (by kernel_rfl)) k5 bel lt5) (trodAll_cons_mk (shut_int Trym.underlying5 w6) (trodAll_cons_mk (Below.trod laidOut (by kernel_rfl) (of_decide_eq_true (by kernel_rfl)) k7 bel lt7) (trodAll_cons_mk (shut_int Trym.underlying5 w8) (trodAll_cons_mk (Below.trod laidOut (by kernel_rfl) (of_decide_eq_true (by kernel_rfl)) k9 bel lt9) (trodAll_cons_mk (Below.trod laidOut (by kernel_rfl) (of_decide_eq_true (by kernel_rfl)) k10 bel lt10) trodAll_mk0))))))))))), rfl, bel.frame _, fun h => by cases h⟩

theorem over : Rows.fnChangedTouchesOnlyItsNodeAndOnceRow.holds Trym.pinned (OpenSpec.ofChange Rows.fnChangedTouchesOnlyItsNodeAndOnceSpec) :=
  OpenClaim.holds_of_wide 7 Trym.f7 rfl rfl rfl rfl rfl rfl rfl ⟨rfl, rfl, rfl, rfl, rfl⟩ rfl rfl rfl rfl rfl (by kernel_rfl) Trym.func7 (by kernel_rfl)
    (of_decide_eq_true (by kernel_rfl)) (by unfold Func.isWrapper; first | (rw [if_pos (by decide +kernel)]; kernel_rfl) | (rw [if_neg (by decide +kernel)]; exact ⟨rfl, rfl⟩))
    (fun os started H enc _ => lifted os started H enc)

end Go.Proofs.Qxb6613289aMods.lawB

namespace Go.Proofs.Qxb6613289aMods
/-- THE STATEMENT. -/
theorem lawB_proved : Rows.FnChangedTouchesOnlyItsNodeAndOnceSaid := lawB.over
end Go.Proofs.Qxb6613289aMods
