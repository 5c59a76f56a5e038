/- cloneBytes, sameContent, sameBytes. -/
import Derived.Test.Qxb6613289aModsBytes
import Derived.Lib.SliceRun
import Derived.OwnWalk
namespace Go.Proofs.Qxb6613289aMods
open Go.RowKit

theorem eql26_nil (a : Option Addr) (n c : Nat) (w : World) : Sem.run Trym.prog (binOp .eql 26 (.slice a n c) (.slice none 0 0)) w = .ok (.bool a.isNone) w := Lib.run_eql_slice_nil w 26 5 a n c 0 0 Trym.underlying26
theorem Trym.info5 : (Trym.prog.info? 5).map (fun i => (i.zero, i.size, i.bytes)) = some (some (.int .u8 0), 1, 1) := by kernel_rfl

theorem clone_nil (w : World) : Calls Trym.prog 22 #[.slice none 0 0] w fun e w' => e = .returned (.slice none 0 0) ∧ w' = w := by
  have e0 := eql26_nil
  go_enter Trym.func22, Trym.ntmps22
  go_wp2
  go_ret
  exact ⟨rfl, rfl⟩

/-- The cells of a row of bytes. -/
def bytes (zs : List Int) : List Value := zs.map (Value.int .u8)
/-- What a copy holds behind k rounds. -/
def part (zs : List Int) (k : Nat) : List Value := bytes (zs.take k) ++ List.replicate (zs.length - k) (Value.int .u8 0)

theorem part_zero (zs : List Int) : part zs 0 = List.replicate zs.length (Value.int .u8 0) := by simp [part, bytes]
theorem part_all (zs : List Int) : part zs zs.length = bytes zs := by simp [part, bytes]
theorem part_length (zs : List Int) (k : Nat) (hk : k ≤ zs.length) : (part zs k).length = zs.length := by simp [part, bytes]; omega
theorem part_step (zs : List Int) (k : Nat) (hk : k < zs.length) : (part zs k).set k (.int .u8 zs[k]) = part zs (k + 1) := by
  unfold part bytes
  have e : zs.length - k = (zs.length - (k + 1)) + 1 := by omega
  rw [e, List.replicate_succ, List.take_succ_eq_append_getElem hk, List.map_append]
  have hl : ((zs.take k).map (Value.int .u8)).length = k := by simp; omega
  rw [List.set_append_right _ _ (by omega), hl]
  simp

theorem made_block {w1 : World} {B len : Nat} (h : w1.ownsRow B 5 1 (.slice (some ⟨B, 0, none⟩) len len) len (madeCells (Value.int .u8 0).cells (len * 1)).toList) :
    w1.heap[B]? = some (.cells (List.replicate len (Value.int .u8 0)).toArray 5 (0, 0)) := by
  obtain ⟨_, h2⟩ := h
  rcases h2 with ⟨h2, _⟩ | ⟨g, cap, cur, hv, _, hh, _, _, hsz, ht⟩
  · cases h2
  · simp only [Value.slice.injEq, Option.some.injEq, Addr.mk.injEq] at hv
    obtain ⟨⟨rfl, _⟩, _, rfl⟩ := hv
    rw [hh]
    have e1 : cur.toList.take (len * 1) = cur.toList := List.take_of_length_le (by simp; omega)
    rw [e1] at ht
    have e2 : cur = (List.replicate len (Value.int .u8 0)).toArray := by
      apply Array.toList_inj.1
      rw [ht]
      simp [madeCells, Value.cells]
      apply List.ext_getElem
      · simp
      · intro i h1 h2
        simp [Nat.mod_one]
    rw [e2]

/-- ONE ROUND: the k-th byte is stored. -/
theorem clone_round {w wr : World} {B : Nat} {zs : List Int} {k : Nat} (hk : k < zs.length) (hB : w.heap.size ≤ B) (hb : wr.heap[B]? = some (.cells (part zs k).toArray 5 (0, 0))) (hbel : Below w.heap.size w wr) :
    (wr.setCell ⟨B, k, none⟩ (.int .u8 zs[k])).heap[B]? = some (.cells (part zs (k + 1)).toArray 5 (0, 0)) ∧ Below w.heap.size w (wr.setCell ⟨B, k, none⟩ (.int .u8 zs[k])) := by
  refine ⟨?_, hbel.setCell hB _⟩
  rw [heap_setCell_same wr B k _ 5 _ hb, List.setIfInBounds_toArray, part_step zs k hk]

set_option maxHeartbeats 400000 in
theorem clone_some (x : Addr) (len cap : Nat) (zs : List Int) (w : World) (h : Row8 w (some x) len cap zs) (hs : len ≤ 65536) :
    Calls Trym.prog 22 #[.slice (some x) len cap] w fun e w' => ∃ g : Nat, e = .returned (.slice (some ⟨g, 0, none⟩) len len) ∧ w.heap.size ≤ g ∧ g < w'.heap.size ∧ Below w.heap.size w w' ∧ w'.heap[g]? = some (.cells (bytes zs).toArray 5) := by
  have e0 := eql26_nil
  obtain ⟨i0, hi, hz0, hz1, hz2⟩ := info_parts Trym.info5
  have hl := h.length
  rcases h.at_ with h0 | ⟨b, off, hx, hlt, hc⟩
  · subst h0
    have hz : zs = [] := List.length_eq_zero_iff.1 hl
    subst hz
    clear h hl hs
    go_enter Trym.func22, Trym.ntmps22
    go_wp2_with (first
      | (at_make; refine wpList_make_full _ rfl _ _ 26 rfl w.heap.size 5 i0 (.int .u8 0) 1 Trym.underlying26 hi hz0 hz1 _ _ _ _ 0 rfl rfl (by omega) (by omega) (by rw [hz2]; omega) (by unfold maxLen; omega) (Nat.le_refl _) ?_; intro w1 hown hgrow))
    have hb := made_block hown
    have hbel := (Below.refl w.heap.size w).grown hgrow (Nat.le_refl _) (by simp)
    clear hown hgrow e0
    refine wp_loop_rounds 1 ?_
    rw [rounds_succ]
    go_wp2
    go_ret
    exact ⟨w.heap.size, rfl, Nat.le_refl _, (Array.getElem?_eq_some_iff.1 hb).1, hbel, hb⟩
  · cases hx
    clear h
    go_enter Trym.func22, Trym.ntmps22
    go_wp2_with (first
      | (at_make; refine wpList_make_full _ rfl _ _ 26 rfl w.heap.size 5 i0 (.int .u8 0) 1 Trym.underlying26 hi hz0 hz1 _ _ _ _ len rfl rfl (by omega) (by omega) (by rw [hz2]; omega) (by unfold maxLen; omega) (Nat.le_refl _) ?_; intro w1 hown hgrow))
    have hb := made_block hown
    rw [← hl, ← part_zero] at hb
    have hbel := (Below.refl w.heap.size w).grown hgrow (Nat.le_refl _) (by simp)
    have HL : Hid (zs.length = len) := hl
    clear hown hgrow e0 hl hi hz0 hz1 hz2
    go_loopw [4] (fun i wr => ∃ k : Nat, k ≤ len ∧ i = .int .i64 k ∧ wr.heap[w.heap.size]? = some (.cells (part zs k).toArray 5 (0, 0)) ∧ Below w.heap.size w wr) (fun i _ => len - (intOf i).toNat)
    case atStart => exact ⟨0, Nat.zero_le _, rfl, hb, hbel⟩
    case round =>
      obtain ⟨k, hk, rfl, hbk, hbelk⟩ := hrel
      clear hb hbel
      by_cases hlt2 : k < len
      · have hkz : k < zs.length := by have := HL.out; omega
        have hcell : wr.cell? ⟨b, off + k, none⟩ = some (.int .u8 zs[k]) := by rw [hbelk.cell (p := ⟨b, off + k, none⟩) hlt, hc k hlt2]; simp [List.getD, hkz]
        have hc2 : ∃ u, wr.cell? ⟨w.heap.size, k, none⟩ = some u := by
          refine ⟨(part zs k)[k]'(by rw [part_length zs k (by omega)]; exact hkz), ?_⟩
          rw [cell_of_row wr w.heap.size k _ 5 _ hbk]
          simp
        obtain ⟨u, hc2⟩ := hc2
        have hf2 : wr.frozen? ⟨w.heap.size, k, none⟩ = false := frozen_of_row wr _ _ _ 5 hbk
        have R := clone_round hkz (Nat.le_refl _) hbk hbelk
        have HR : Hid ((wr.setCell ⟨w.heap.size, k, none⟩ (.int .u8 zs[k])).heap[w.heap.size]? = some (.cells (part zs (k + 1)).toArray 5 (0, 0)) ∧ Below w.heap.size w (wr.setCell ⟨w.heap.size, k, none⟩ (.int .u8 zs[k]))) := R
        clear hc hbk hbelk R
        go_wp2
        go_roundw
        case rel => exact ⟨k + 1, by omega, by go_num, HR.out.1, HR.out.2⟩
        case measure => simp [intOf]; omega
      · have hkl : k = len := by omega
        subst hkl
        clear hc
        go_wp2
        go_ret
        refine ⟨w.heap.size, rfl, Nat.le_refl _, (Array.getElem?_eq_some_iff.1 hbk).1, hbelk, ?_⟩
        rw [hbk, ← HL.out, part_all]

/-- A copy is a row of the same bytes. -/
theorem row_of_block {w w0 : World} {a : Option Addr} {len cap g : Nat} {zs : List Int} (h : Row8 w0 a len cap zs) (hb : w.heap[g]? = some (.cells (bytes zs).toArray 5)) : Row8 w (some ⟨g, 0, none⟩) len len zs := by
  refine ⟨h.length, by simp, Nat.le_trans h.le h.small, Nat.le_refl _, Or.inr ⟨g, 0, rfl, (Array.getElem?_eq_some_iff.1 hb).1, fun i hi => ?_⟩, h.bound⟩
  have hl := h.length
  rw [cell_of_row w g (0 + i) _ 5 _ hb]
  simp [bytes, List.getD, show i < zs.length from by omega]
end Go.Proofs.Qxb6613289aMods
