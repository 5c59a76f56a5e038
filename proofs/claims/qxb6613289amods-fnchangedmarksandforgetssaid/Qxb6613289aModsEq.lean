/- '==' of an array of bytes with itself; guarded operations. -/
import Derived.Test.Qxb6613289aModsTrie
import Derived.Laws.StructEq
import Derived.Deep.RegionHeld3
namespace Go.Proofs.Qxb6613289aMods
open Go.RowKit

/-- Every cell is a byte. -/
def AllBytes (cs : List Value) : Prop := ∀ v ∈ cs, ∃ z : Int, v = .int .u8 z

theorem AllBytes.one {cs : List Value} (h : AllBytes cs) : ∀ v ∈ cs, v.oneCell' = true := fun v hv => by
  obtain ⟨z, rfl⟩ := h v hv
  rfl

theorem zero33_bytes : AllBytes zero33 := fun _ hv => ⟨0, List.eq_of_mem_replicate hv⟩

theorem eq27_same (cs : List Value) (hc : cs.length = 33) (hb : AllBytes cs) (w : World) : (Op.equalIn 10000 27 (.agg cs.toArray) (.agg cs.toArray)).run Trym.prog w = .ok true w := by
  have a5 := Trym.isAgg5
  have z5 := Trym.sizeOf5
  rw [show (10000 : Nat) = 9999 + 1 from rfl, Op.equalIn]
  simp only [Sem.run_bind, run_underlying Trym.underlying27, Result.andThen_ok]
  simp only [Std.Legacy.Range.forIn_eq_forIn_range', Std.Legacy.Range.size, Nat.sub_zero, Nat.add_sub_cancel, Nat.div_one]
  have hl : ∀ i ∈ List.range' 0 33 1, i < 33 := fun i hi => by simpa using hi
  generalize List.range' 0 33 1 = l at hl
  rw [z5]
  simp only [Result.andThen_ok]
  induction l with
  | nil => simp
  | cons i l ih =>
    have hi : i < 33 := hl i (by simp)
    obtain ⟨z, hz⟩ := hb (cs[i]'(by omega)) (List.getElem_mem _)
    have hp : (part 5 cs.toArray (i * 1)).run Trym.prog w = .ok (.int .u8 z) w := by
      simp [part, a5, hc, hi, hz]
    have he : (Op.equalIn 9999 5 (.int .u8 z) (.int .u8 z)).run Trym.prog w = .ok true w := by
      rw [show (9999 : Nat) = 9998 + 1 from rfl, run_equalIn_int w 9998 5 .u8 .u8 z z Trym.underlying5]
      simp
    simp only [List.forIn_cons, Sem.run_bind, hp, he, Result.andThen_ok, Bool.not_true, Bool.false_eq_true, if_false, Sem.run_pure]
    exact ih (fun j hj => hl j (by simp [hj]))

theorem zero27 (w : World) : (zeroValue 27).run Trym.prog w = .ok (.agg zero33.toArray) w := by kernel_rfl

/-! ### operations, guarded or not, at the list of a region that is not drawn -/
section
variable {P : Program} {ops : Array Oper} {rest : List Oper} {o : Oper} {a : Act} {w : World} {Q : Exit → Act → World → Prop}

theorem wpList_wanted (hw : Region.wanted o (yielded ops a.tmps) = true) (h : ∀ K : Act → World → Prop, (∀ a w, wpList P ops Q rest a w → K a w) → o.wp P a w K Q) : wpList P ops Q (o :: rest) a w :=
  wpList_step fun K hK => by rw [if_pos hw]; exact h K hK

/-- A whole array out of the block at whose head the pointer stands; the operation may be guarded. -/
theorem wpList_load_row_g (hw : Region.wanted o (yielded ops a.tmps) = true) (ty : TypeId) (x : Operand) (ho : o.op = .load ty x)
    (g : Nat) (hx : a.eval x = .pointer (some ⟨g, 0, none⟩)) (t : TypeId) (cs : Array Value) (fr : Nat × Nat) (d : TypeDesc) (hg : w.heap[g]? = some (.cells cs t fr))
    (hu : P.underlying ty = some d) (hd : (match d with | .struct _ | .array _ _ => true | _ => false) = true) (hi : (P.info? ty).map (·.size) = some cs.size)
    (h : wpList P ops Q rest (a.put o.dst (.agg cs)) w) : wpList P ops Q (o :: rest) a w :=
  wpList_wanted hw fun _ hK => wp_load_row ty x ho g hx t cs fr d hg hu hd hi (hK _ _ h)

/-- 'var x T' of a type whose zero value is the row z: a new block. -/
theorem wpList_alloc_is (hg : o.guard = none) (t : TypeId) (ho : o.op = .alloc t) (z : Array Value) (hz : ∀ w, (zeroValue t).run P w = .ok (.agg z) w)
    (h : wpList P ops Q rest (a.put o.dst (.pointer (some ⟨w.heap.size, 0, none⟩))) (w.alloc (.cells z t))) : wpList P ops Q (o :: rest) a w := by
  refine wpList_plain hg fun K hK => ?_
  unfold Oper.wp execOp
  simp [ho, Instr.alloc, hz, newVar, newRow, Value.cells, Result.andThen]
  exact hK _ _ h

/-- The same at the operation. -/
theorem wp_alloc_is {K : Act → World → Prop} (t : TypeId) (ho : o.op = .alloc t) (z : Array Value) (hz : ∀ w, (zeroValue t).run P w = .ok (.agg z) w)
    (h : K (a.put o.dst (.pointer (some ⟨w.heap.size, 0, none⟩))) (w.alloc (.cells z t))) : o.wp P a w K Q := by
  unfold Oper.wp execOp
  simp [ho, Instr.alloc, hz, newVar, newRow, Value.cells, Result.andThen]
  exact h

/-- A whole array into the block that was made last. -/
theorem wpList_store_new (hg : o.guard = none) (ty : TypeId) (x y : Operand) (ho : o.op = .store ty x y) (w0 : World) (c c' : Array Value) (hw0 : w = w0.alloc (.cells c ty))
    (hx : a.eval x = .pointer (some ⟨w0.heap.size, 0, none⟩)) (hy : a.eval y = .agg c') (hi : (P.info? ty).map (·.size) = some c'.size) (hs : c.size = c'.size) (h1 : c'.all (·.oneCell') = true)
    (h : wpList P ops Q rest (a.put o.dst undef) (w0.alloc (.cells c' ty))) : wpList P ops Q (o :: rest) a w := by
  subst hw0
  refine wpList_plain hg fun K hK => ?_
  unfold Oper.wp execOp
  simp only [ho, hx, hy, Sem.run_bind, run_storeAt_new w0 ty c c' hi hs h1, Result.andThen_ok]
  exact hK _ _ h
end

/-! ### a region that draws its order, by hand: the kit's laws with the operations as a list that is written out -/
section
variable {P : Program} {l : List Oper} {Q : Exit → Act → World → Prop} {md : Region.Mode} {S : World → Prop}
theorem takeL {i : Nat} {oi : Oper} (hi : l[i]? = some oi) {v : Value} {fuel : Nat} {listed : Array Bool} {a : Act} {w : World}
    (hs : Region.noSelect l.toArray = true) (hf : Region.free md l.toArray listed i = true) (hr : (Region.ready md l.toArray listed).contains i = true)
    (hQ : ∀ c a w, Q (.panic c) (a.put oi.dst v) w → Q (.panic c) a w) (hy : YieldsIf P l.toArray S oi v a) (hS : S w)
    (h : wpAnyH P md l.toArray Q S fuel (listed.setIfInBounds i true) (a.put oi.dst v) w) : wpAnyH P md l.toArray Q S (fuel + 1) listed a w :=
  wpAnyH_take (by simpa using hi) hs hf hr hQ hy hS h
theorem consL {i : Nat} {o : Oper} (ho : l[i]? = some o) {fuel : Nat} {listed : Array Bool} {a : Act} {w : World} {rs : List Nat}
    (h : ∀ K' : Act → World → Prop, Shut (∀ a w, S w → (S w → wpAnyH P md l.toArray Q S fuel (listed.setIfInBounds i true) a w) → K' a w) → if Region.wanted o (yielded l.toArray a.tmps) = true then Oper.wp P o a w K' Q else K' (a.put o.dst undef) w)
    (hs : AllReadyH P md l.toArray Q S fuel listed a w rs) : AllReadyH P md l.toArray Q S fuel listed a w (i :: rs) :=
  AllReadyH.cons (by simpa using ho) h hs
end
end Go.Proofs.Qxb6613289aMods
