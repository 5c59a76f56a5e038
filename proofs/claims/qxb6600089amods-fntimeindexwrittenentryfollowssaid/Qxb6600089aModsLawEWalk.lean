/- The walk of FnTimeIndexWrittenEntryFollows. -/
import Derived.Test.Qxb6600089aModsBase
namespace Go.Proofs.Qxb6600089aMods
open Go.RowKit
set_option linter.unusedSimpArgs false
set_option linter.unusedVariables false

set_option maxHeartbeats 400000 in
theorem zz19_any (a0 a1 a2 a3 : Int) (fa ma : Option Addr) (fn fc mn mc : Nat) (hf : fn ≤ maxLen) (hm : mn ≤ maxLen) (w : World) :
    Calls Trym.prog 19 #[.int .i64 a0, .int .i64 a1, .int .i64 a2, .int .i64 a3, .slice fa fn fc, .slice ma mn mc] w fun e w' => ∃ r : Bool, e = .returned (.bool r) ∧ w' = w := by
  unfold maxLen at hf hm
  go_enter Trym.func19, Trym.ntmps19
  go_wp2
  all_goals
    go_ret
    exact ⟨_, rfl, rfl⟩

/-- The writer's state behind k batches. -/
def Inv (pts poff after at_ : Int) (ms : List Int) (k : Nat) (ts off : Int) : Prop :=
  pts ≤ ts ∧ (∀ j, j < k → ms.getD j 0 ≤ ts) ∧ (ts = pts → off = poff) ∧ (pts < ts → after < off ∧ off ≤ at_)

theorem Inv.start (pts poff after at_ : Int) (ms : List Int) : Inv pts poff after at_ ms 0 pts poff := ⟨by omega, by omega, fun _ => rfl, by omega⟩
theorem Inv.keep {pts poff after at_ : Int} {ms : List Int} {k : Nat} {ts off : Int} (h : Inv pts poff after at_ ms k ts off) (hm : ms.getD k 0 ≤ ts) : Inv pts poff after at_ ms (k + 1) ts off := by
  refine ⟨h.1, fun j hj => ?_, h.2.2.1, h.2.2.2⟩
  by_cases e : j = k
  · subst e; exact hm
  · exact h.2.1 j (by omega)
theorem Inv.step {pts poff after at_ : Int} {ms : List Int} {k : Nat} {ts off f : Int} (h : Inv pts poff after at_ ms k ts off) (hm : ts < ms.getD k 0) (hf : after < f ∧ f ≤ at_) : Inv pts poff after at_ ms (k + 1) (ms.getD k 0) f := by
  have h1 := h.1
  refine ⟨by omega, fun j hj => ?_, by omega, fun _ => hf⟩
  by_cases e : j = k
  · subst e; omega
  · have := h.2.1 j (by omega); omega

theorem keep_cell {W X Y : World} {b o : Nat} {v : Value} (hB : Below X.heap.size X Y) (h : X.cell? ⟨b, o, none⟩ = some v ∧ b < X.heap.size ∧ Below W.heap.size W X) : Y.cell? ⟨b, o, none⟩ = some v ∧ b < Y.heap.size ∧ Below W.heap.size W Y :=
  ⟨by rw [hB.cell (p := ⟨b, o, none⟩) h.2.1]; exact h.1, Nat.lt_of_lt_of_le h.2.1 hB.size, h.2.2.trans (hB.mono h.2.2.size)⟩

set_option maxHeartbeats 1000000 in
theorem lawE_walk (a0 a1 a2 a3 : Int) (a4 : Option Addr) (len4 cap4 : Nat) (z4 : List Int) (a5 : Option Addr) (len5 cap5 : Nat) (z5 : List Int) (w : World)
    (w0 : (Lit.int .i64 a0).wf = true) (w1 : (Lit.int .i64 a1).wf = true) (w2 : (Lit.int .i64 a2).wf = true) (w3 : (Lit.int .i64 a3).wf = true) (w4 : Row64 w a4 len4 cap4 z4) (w5 : Row64 w a5 len5 cap5 z5) :
    Calls Trym.prog 6 #[.int .i64 a0, .int .i64 a1, .int .i64 a2, .int .i64 a3, .slice a4 len4 cap4, .slice a5 len5 cap5] w fun e w' => e = .returned (.bool true) ∧ Below w.heap.size w w' := by
  have m4 : len4 ≤ maxLen := Nat.le_trans w4.le w4.small
  have m5 : len5 ≤ maxLen := Nat.le_trans w5.le w5.small
  clear w0 w1 w2 w3
  go_enter Trym.func6, Trym.ntmps6
  go_wp2_with fail
  refine (zz19_any _ _ _ _ _ _ _ _ _ _ m4 m5 _).mono ?_
  rintro e w' ⟨r, rfl, rfl⟩
  cases r
  · go_wp2
    go_ret
    exact ⟨rfl, Below.refl _ _⟩
  unfold maxLen at m4 m5
  by_cases l4 : 65536 < len4
  · go_wp2
    go_ret
    exact ⟨rfl, Below.refl _ _⟩
  by_cases l5 : 65536 < len5
  · go_wp2
    go_ret
    exact ⟨rfl, Below.refl _ _⟩
  go_wp2_with fail
  refine (minInt_any len4 len5 _).mono ?_
  rintro e w'' ⟨rfl, rfl⟩
  have hn4 : min len4 len5 ≤ len4 := Nat.min_le_left _ _
  have hn5 : min len4 len5 ≤ len5 := Nat.min_le_right _ _
  generalize min len4 len5 = n at *
  by_cases n0 : n = 0
  · subst n0
    go_wp2
    go_ret
    exact ⟨rfl, Below.refl _ _⟩
  have n0' : ((n : Int) == 0) = false := by simp; omega
  obtain ⟨b4, o4, rfl, lt4, c4⟩ : ∃ b off, a4 = some ⟨b, off, none⟩ ∧ b < w''.heap.size ∧ ∀ i, i < len4 → w''.cell? ⟨b, off + i, none⟩ = some (.int .i64 (z4.getD i 0)) := by
    rcases w4.at_ with h | h
    · omega
    · exact h
  obtain ⟨b5, o5, rfl, lt5, c5⟩ : ∃ b off, a5 = some ⟨b, off, none⟩ ∧ b < w''.heap.size ∧ ∀ i, i < len5 → w''.cell? ⟨b, off + i, none⟩ = some (.int .i64 (z5.getD i 0)) := by
    rcases w5.at_ with h | h
    · omega
    · exact h
  go_wp2
  go_loop [14] (fun i => ∃ k : Nat, k ≤ n ∧ i = .int .i64 k ∧ ∀ j, j < k → a2 < z4.getD j 0 ∧ z4.getD j 0 ≤ a3) (fun i => n - (intOf i).toNat)
  case atStart => exact ⟨0, Nat.zero_le _, rfl, by omega⟩
  case round =>
    obtain ⟨k, hk, rfl, hf⟩ := hrel
    by_cases hlt : k < n
    · have cell : w''.cell? ⟨b4, o4 + k, none⟩ = some (.int .i64 (z4.getD k 0)) := c4 k (by omega)
      generalize hzk : z4.getD k 0 = zk at cell
      have HZ := hidmk hzk
      have HF := hidmk hf
      clear hzk hf c4 c5
      by_cases t1 : zk ≤ a2
      · go_wp2
        go_ret
        exact ⟨rfl, Below.refl _ _⟩
      by_cases t2 : a3 < zk
      · go_wp2
        go_ret
        exact ⟨rfl, Below.refl _ _⟩
      go_wp2
      go_round
      case rel =>
        refine ⟨k + 1, by omega, by go_num, fun j hj => ?_⟩
        by_cases e : j = k
        · subst e; rw [HZ.out]; omega
        · exact HF.out j (by omega)
      case measure => simp [intOf]; omega
    · have hkn : k = n := by omega
      subst hkn
      have HF := hidmk hf
      clear hf hlt
      go_wp2
      go_loop [15, 16, 17] (fun t o i => ∃ (j : Nat) (ts off : Int), j ≤ k ∧ i = .int .i64 j ∧ t = .int .i64 ts ∧ o = .int .i64 off ∧ Inv a0 a1 a2 a3 z5 j ts off) (fun _ _ i => k - (intOf i).toNat)
      case atStart => exact ⟨0, a0, a1, Nat.zero_le _, rfl, rfl, rfl, Inv.start _ _ _ _ _⟩
      case round =>
        obtain ⟨j, ts, off, hj, rfl, rfl, rfl, hI⟩ := hrel
        have HI := hidmk hI
        clear hI
        by_cases hlt2 : j < k
        · have cell5 : w''.cell? ⟨b5, o5 + j, none⟩ = some (.int .i64 (z5.getD j 0)) := c5 j (by omega)
          have cell4 : w''.cell? ⟨b4, o4 + j, none⟩ = some (.int .i64 (z4.getD j 0)) := c4 j (by omega)
          have hfj := HF.out j hlt2
          generalize hm : z5.getD j 0 = mj at cell5
          generalize hfz : z4.getD j 0 = fj at cell4 hfj
          have HM := hidmk hm
          have HFJ := hidmk hfj
          clear hm hfj hfz c4 c5
          by_cases t : ts < mj
          · go_wp2
            go_round
            case rel => exact ⟨j + 1, mj, fj, by omega, by go_num, rfl, rfl, HM.out ▸ HI.out.step (by rw [HM.out]; exact t) HFJ.out⟩
            case measure => simp [intOf]; omega
          · go_wp2
            go_round
            case rel => exact ⟨j + 1, ts, off, by omega, by go_num, rfl, rfl, HI.out.keep (by rw [HM.out]; omega)⟩
            case measure => simp [intOf]; omega
        · have hjk : j = k := by omega
          subst hjk
          obtain ⟨m, rfl⟩ : ∃ m, j = m + 1 := ⟨j - 1, by omega⟩
          have cell5 : w''.cell? ⟨b5, o5 + m, none⟩ = some (.int .i64 (z5.getD m 0)) := c5 m (by omega)
          have hI := HI.out
          have hF : Fol ts off a0 a1 a2 a3 (z5.getD m 0) := ⟨hI.1, hI.2.1 m (by omega), hI.2.2.1, hI.2.2.2⟩
          generalize z5.getD m 0 = bm at cell5 hF
          have FF := hidmk hF
          clear hF hI c4 c5 hlt2
          go_wp2
          have hi1 : (0 : Int) ≤ (m : Int) := by omega
          have hi2 : (m : Int) < (len5 : Int) := by omega
          have S0 : w''.drew.cell? ⟨b5, o5 + m, none⟩ = some (.int .i64 bm) ∧ b5 < w''.drew.heap.size ∧ Below w''.heap.size w'' w''.drew := ⟨cell5, lt5, (Below.refl _ _).drew⟩
          clear n0' n0 HF HI hk hj cell5 w4 w5 lt4
          have k1 : IntKind.i64.wrap ((m : Int) + 1 - 1) = (m : Int) := by rw [IntKind.wrap_i64]; omega
          have k2 : IntKind.i64.wrap (m : Int) = (m : Int) := by rw [IntKind.wrap_i64]; omega
          have k3 : ((m : Int) + 1 - 1) = (m : Int) := by omega
          have k4 : wrap64 (m : Int) = (m : Int) := by unfold wrap64; omega
          go_region_held3 (fun w' => w'.cell? ⟨b5, o5 + m, none⟩ = some (.int .i64 bm) ∧ b5 < w'.heap.size ∧ Below w''.heap.size w'' w')
            (first | exact S0 | (apply keep_cell <;> assumption))
            (first
              | (go_at_call 21; refine (entry_any _ _ _).mono ?_; rintro e v1 ⟨rfl, E1⟩)
              | (go_at_call 20; refine (follows_any _ _ _ _ _ _ _ _ FF.out).mono ?_; rintro e v1 ⟨rfl, E1⟩))
          rename_i hHeld
          have HB := hidmk hHeld.2.2
          clear hHeld k1 k2 k3 k4 S0
          go_wp2
          go_ret
          exact ⟨rfl, HB.out⟩
end Go.Proofs.Qxb6600089aMods
