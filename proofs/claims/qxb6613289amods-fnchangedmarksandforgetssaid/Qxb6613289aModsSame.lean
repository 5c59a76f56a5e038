/- sameContent, sameBytes: over two rows of the same bytes. -/
import Derived.Test.Qxb6613289aModsClone
namespace Go.Proofs.Qxb6613289aMods
open Go.RowKit

set_option maxHeartbeats 1000000 in
theorem sameContent_true (a a' : Option Addr) (len cap cap' : Nat) (zs : List Int) (w : World) (h : Row8 w a len cap zs) (h' : Row8 w a' len cap' zs) :
    Calls Trym.prog 37 #[.slice a len cap, .slice a' len cap'] w fun e w' => e = .returned (.bool true) ∧ ∃ n, w' = w.drewN n := by
  have hm : len ≤ 9223372036854775807 := by have := h.small; have := h.le; unfold maxLen at *; omega
  have hl := h.length
  have cases0 : len = 0 ∨ ∃ b off b' off', a = some ⟨b, off, none⟩ ∧ a' = some ⟨b', off', none⟩ ∧ (∀ i, i < len → w.cell? ⟨b, off + i, none⟩ = some (.int .u8 (zs.getD i 0))) ∧ ∀ i, i < len → w.cell? ⟨b', off' + i, none⟩ = some (.int .u8 (zs.getD i 0)) := by
    rcases h.at_ with h0 | ⟨b, off, ha, _, hc⟩
    · exact Or.inl h0
    · rcases h'.at_ with h0 | ⟨b', off', ha', _, hc'⟩
      · exact Or.inl h0
      · exact Or.inr ⟨b, off, b', off', ha, ha', hc, hc'⟩
  clear h h'
  rcases cases0 with h0 | ⟨b, off, b', off', rfl, rfl, hc, hc'⟩
  · subst h0
    clear hl hm
    go_enter Trym.func37, Trym.ntmps37
    go_wp2
    refine wp_loop_rounds 1 ?_
    rw [rounds_succ]
    go_wp2
    go_ret
    exact ⟨rfl, 0, rfl⟩
  · go_enter Trym.func37, Trym.ntmps37
    go_wp2
    go_loopw [5] (fun i wr => ∃ k : Nat, k ≤ len ∧ i = .int .i64 k ∧ ∃ n, wr = w.drewN n) (fun i _ => len - (intOf i).toNat)
    case atStart => exact ⟨0, Nat.zero_le _, rfl, 0, rfl⟩
    case round =>
      obtain ⟨k, hk, rfl, n, rfl⟩ := hrel
      by_cases hlt2 : k < len
      · have hkz : k < zs.length := by omega
        have hcell : w.cell? ⟨b, off + k, none⟩ = some (.int .u8 zs[k]) := by rw [hc k hlt2]; simp [List.getD, hkz]
        have hcell' : w.cell? ⟨b', off' + k, none⟩ = some (.int .u8 zs[k]) := by rw [hc' k hlt2]; simp [List.getD, hkz]
        have hi1 : (k : Int) < (len : Int) := by omega
        clear hc hc' hl
        go_wp2
        go_quiet (fail)
        go_wp2
        go_roundw
        case rel => exact ⟨k + 1, by omega, by go_num, _, rfl⟩
        case measure => simp [intOf]; omega
      · go_wp2
        go_ret
        exact ⟨rfl, n, rfl⟩

set_option maxHeartbeats 400000 in
theorem sameBytes_true (a a' : Option Addr) (len cap cap' : Nat) (zs : List Int) (w : World) (h : Row8 w a len cap zs) (h' : Row8 w a' len cap' zs) (hn : a.isNone = a'.isNone) :
    Calls Trym.prog 28 #[.slice a len cap, .slice a' len cap'] w fun e w' => e = .returned (.bool true) ∧ ∃ n, w' = w.drewN n := by
  have e0 := eql26_nil
  have e1 : (a.isNone == a'.isNone) = true := by rw [hn]; simp
  have HN : Hid (a.isNone = a'.isNone) := hn
  clear hn
  go_enter Trym.func28, Trym.ntmps28
  go_wp2_with (go_at_call 37; refine (sameContent_true _ _ _ _ _ zs _ h h').mono ?_; rintro e w' ⟨rfl, n, rfl⟩)
  go_ret
  exact ⟨rfl, _, rfl⟩

/-- sameBytes_true, the world behind it told by what it keeps. -/
theorem sameBytes_below (a a' : Option Addr) (len cap cap' : Nat) (zs : List Int) (w : World) (h : Row8 w a len cap zs) (h' : Row8 w a' len cap' zs) (hn : a.isNone = a'.isNone) :
    Calls Trym.prog 28 #[.slice a len cap, .slice a' len cap'] w fun e w' => e = .returned (.bool true) ∧ w'.heap = w.heap ∧ Below w.heap.size w w' := by
  refine (sameBytes_true a a' len cap cap' zs w h h' hn).mono ?_
  rintro e w' ⟨rfl, n, rfl⟩
  exact ⟨rfl, rfl, rfl, rfl, rfl, Nat.le_refl _, fun _ _ => rfl⟩
end Go.Proofs.Qxb6613289aMods
