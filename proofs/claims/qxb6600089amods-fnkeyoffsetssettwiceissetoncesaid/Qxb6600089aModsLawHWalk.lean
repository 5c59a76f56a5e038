/- The walk of FnKeyOffsetsSetTwiceIsSetOnce. -/
import Derived.Test.Qxb6600089aModsLawGWalk
import Derived.BigQuiet
namespace Go.Proofs.Qxb6600089aMods
open Go.RowKit Go.Maps
set_option linter.unusedSimpArgs false
set_option linter.unusedVariables false

set_option maxRecDepth 100000 in
set_option maxHeartbeats 4000000 in
theorem lawH_walk (a0 : Option Addr) (len0 cap0 : Nat) (ls : List (List UInt8)) (a1 : Option Addr) (len1 cap1 : Nat) (zs : List Int) (A : ByteArray) (x y : Int) (w : World)
    (w0 : RowS w a0 len0 cap0 ls) (w1 : Row64 w a1 len1 cap1 zs) (wA : A.size ≤ maxLen) (wx : (Lit.int .i64 x).wf = true) (wy : (Lit.int .i64 y).wf = true) :
    Calls Trym.prog 5 #[.slice a0 len0 cap0, .slice a1 len1 cap1, .string A, .int .i64 x, .int .i64 y] w fun e w' => e = .returned (.bool true) ∧ Below w.heap.size w w' := by
  have m0 : len0 ≤ maxLen := Nat.le_trans w0.le w0.small
  have m1 : len1 ≤ maxLen := Nat.le_trans w1.le w1.small
  have WX := hidmk wx
  have WY := hidmk wy
  clear wx wy
  go_enter Trym.func5, Trym.ntmps5
  go_wp2_with fail
  refine (bytes17_any _ _ _ _ _ _ _ A x y _ w0 m1 wA).mono ?_
  rintro e w' ⟨r, rfl, rfl⟩
  cases r
  · go_wp2
    go_ret
    exact ⟨rfl, Below.refl _ _⟩
  have HA := hidmk wA
  unfold maxLen at m0 m1 wA
  by_cases l0 : 4096 < len0
  · go_wp2
    go_ret
    exact ⟨rfl, Below.refl _ _⟩
  by_cases l1 : 4096 < len1
  · go_wp2
    go_ret
    exact ⟨rfl, Below.refl _ _⟩
  by_cases l2 : 524288 < A.size
  · go_wp2
    go_ret
    exact ⟨rfl, Below.refl _ _⟩
  go_wp2_with fail
  refine (over10_any _ _ _ _ _ _ w0 (by omega) (by omega)).mono ?_
  rintro e w'' ⟨r, rfl, rfl⟩
  cases r
  rotate_left
  · go_wp2
    go_ret
    exact ⟨rfl, Below.refl _ _⟩
  go_wp2_with fail
  refine (minInt_any len0 len1 _).mono ?_
  rintro e w3 ⟨rfl, rfl⟩
  have hn0 : min len0 len1 ≤ len0 := Nat.min_le_left _ _
  have hn1 : min len0 len1 ≤ len1 := Nat.min_le_right _ _
  generalize min len0 len1 = n at *
  have hn : n ≤ 4096 := by omega
  obtain ⟨la, rfl⟩ := bytes_of A
  have hla : Hid (la.length ≤ maxLen) := HA.out
  clear wA l2 HA m0 m1 l0 l1
  go_wp2_with fail
  refine (replay_any a0 len0 cap0 ls a1 len1 cap1 zs n w3 w0 w1 hn0 hn1 hn).mono ?_
  rintro e W1 ⟨gv, rfl, E, B1⟩
  obtain ⟨ga, LO, cp, rfl⟩ := shape3 E.row
  have hsm : (repK ls n).length ≤ 4096 := Nat.le_trans (repK_length_le ls n) hn
  generalize hK : repK ls n = K at *
  generalize hO : repO ls zs n = O at *
  have HK := hidmk hK
  have HO := hidmk hO
  have HOK := hidmk E.len
  have s1 := setK_length_le K la
  have HE := hidmk E
  clear hK hO E
  obtain ⟨c1, hcv⟩ := conv934 la W1
  go_wp2_with fail
  refine (zset_conv HE.out la c1 hla.out WX.out (by omega)).mono ?_
  rintro e W2 ⟨ga2, L2, cp2, rfl, E2, hL2, B2⟩
  have HE2 := hidmk E2
  clear hcv E2 HE hL2
  obtain ⟨c2, hcv⟩ := conv934 la W2
  go_wp2_with fail
  refine (zset_conv HE2.out la c2 hla.out WY.out (by omega)).mono ?_
  rintro e W3 ⟨ga3, L3, cp3, rfl, E3, hL3, B3⟩
  rw [setK_twice, setO_twice HOK.out] at E3
  rw [setO_twice HOK.out] at hL3
  have HL3 := hidmk hL3
  have HE3 := hidmk E3
  clear hcv E3 HE2 hL3
  have B03 : Below w3.heap.size w3 W3 := (B1.trans B2).trans B3
  have w0' := w0.grown B03
  have w1' := w1.grown B03
  have HB03 := hidmk B03
  clear B1 B2 B3 B03
  go_wp2_with fail
  refine (replay_any a0 len0 cap0 ls a1 len1 cap1 zs n W3 w0' w1' hn0 hn1 hn).mono ?_
  rintro e W4 ⟨gv4, rfl, E4, B4⟩
  obtain ⟨ga4, L4, cp4, rfl⟩ := shape3 E4.row
  rw [HK.out, HO.out] at E4
  have HE4 := hidmk E4
  clear E4
  obtain ⟨c5, hcv⟩ := conv934 la W4
  go_wp2_with fail
  refine (zset_conv HE4.out la c5 hla.out WY.out (by omega)).mono ?_
  rintro e W5 ⟨ga5, L5, cp5, rfl, E5, hL5, B5⟩
  clear hcv HE4
  have hL35 : L3 = L5 := by rw [hL5, HL3.out]
  subst hL35
  have B35 : Below W3.heap.size W3 W5 := B4.trans B5
  have E35 := HE3.out.grown B35
  have B05 : Below w3.heap.size w3 W5 := HB03.out.trans (B35.mono HB03.out.size)
  have hLs : L3 ≤ 5000 := by rw [hL5, E5.len]; omega
  clear B4 B5 HE3 w0' w1' B35 HL3 HB03
  have hc1 := E35.count
  have hc2 := E5.count
  have HB05 := hidmk B05
  have HE1 := hidmk E35
  have HE2 := hidmk E5
  have HL := hidmk hL5
  clear B05 E35 E5 hL5
  have HMA : Hid (la ∈ setK K la) := (mem_setK _ _ _).2 (Or.inl rfl)
  have HVA : Hid (valAt (setK K la) (setO K O la y) la = y) := valAt_same HOK.out la y
  generalize (setK K la).length = N at *
  go_wp2
  clear hc1 hc2
  go_loopw [16] (fun i wr => ∃ k : Nat, k ≤ L3 ∧ i = .int .i64 k ∧ Below W5.heap.size W5 wr) (fun i _ => L3 - (intOf i).toNat)
  case atStart => exact ⟨0, Nat.zero_le _, rfl, Below.refl _ _⟩
  case round =>
    obtain ⟨k, hk, rfl, BR⟩ := hrel
    by_cases hlt : k < L3
    · obtain ⟨e1, g1, rfl, q1⟩ := (HE1.out.grown BR).cell (by rw [← HL.out]; omega)
      obtain ⟨e2, g2, rfl, q2⟩ := (HE2.out.grown BR).cell (by rw [← HL.out]; omega)
      have t1 := q1 k (by rw [← HL.out]; exact hlt)
      have t2 := q2 k (by rw [← HL.out]; exact hlt)
      have HR := hidmk BR
      clear e1 e2 q1 q2 BR w0 w1
      generalize (setO K O la y).getD k 0 = v at *
      have i1 : (k : Int) < (L3 : Int) := by omega
      go_wp2
      go_quiet (fail)
      go_wp2
      go_roundw
      case rel => exact ⟨k + 1, hlt, by go_num, ⟨HR.out.os, HR.out.tape, HR.out.output, HR.out.size, HR.out.block⟩⟩
      case measure => simp [intOf]; omega
    · have EX1 := hidmk (HE1.out.grown BR)
      have EX2 := hidmk (HE2.out.grown BR)
      have BX := hidmk (HB05.out.trans (BR.mono HB05.out.size))
      generalize wr = WR at *
      clear BR HE1 HE2 HB05
      go_wp2_with fail
      refine (lookup_is EX1.out la hla.out HMA.out HVA.out).mono ?_
      rintro e W7 ⟨rfl, rfl⟩
      go_wp2_with fail
      refine (samePlace_any EX1.out EX2.out la hla.out).mono ?_
      rintro e W8 ⟨rfl, rfl⟩
      go_wp2
      go_loop [19] (fun i => ∃ j : Nat, j ≤ n ∧ i = .int .i64 j) (fun i => n - (intOf i).toNat)
      case atStart => exact ⟨0, Nat.zero_le _, rfl⟩
      case round =>
        obtain ⟨j, hj, rfl⟩ := hrel
        by_cases hlt2 : j < n
        · obtain ⟨b0, o0, rfl, lt0, c0⟩ : ∃ b off, a0 = some ⟨b, off, none⟩ ∧ b < w3.heap.size ∧ ∀ i, i < len0 → w3.cell? ⟨b, off + i, none⟩ = some (.string ⟨(ls.getD i []).toArray⟩) := by
            rcases w0.at_ with h | h
            · omega
            · exact h
          have ck : W8.cell? ⟨b0, o0 + j, none⟩ = some (.string ⟨(ls.getD j []).toArray⟩) := by rw [BX.out.cell (p := ⟨b0, o0 + j, none⟩) lt0, c0 j (by omega)]
          have hbd := hidmk (w0.getD_le j)
          clear c0 w0 w1
          generalize ls.getD j [] = s at *
          have i1 : (j : Int) < (len0 : Int) := by omega
          go_wp2_with fail
          refine (samePlace_any EX1.out EX2.out s hbd.out).mono ?_
          rintro e W9 ⟨rfl, rfl⟩
          go_wp2
          go_round
          case rel => exact ⟨j + 1, hlt2, by go_num⟩
          case measure => simp [intOf]; omega
        · go_wp2
          go_ret
          exact ⟨rfl, BX.out⟩
end Go.Proofs.Qxb6600089aMods
