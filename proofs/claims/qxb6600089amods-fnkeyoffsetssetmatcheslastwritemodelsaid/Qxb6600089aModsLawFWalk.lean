/- The walk of FnKeyOffsetsSetMatchesLastWriteModel. -/
import Derived.Test.Qxb6600089aModsMem
import Derived.OwnWalk
import Derived.BigQuiet
namespace Go.Proofs.Qxb6600089aMods
open Go.RowKit Go.Maps
set_option linter.unusedSimpArgs false
set_option linter.unusedVariables false

theorem Trym.info3 : (Trym.prog.info? 3).map (fun i => (i.zero, i.size, i.bytes)) = some (some (.int .i64 0), 1, 8) := by kernel_rfl

/-- The rank slice: its block, its elements. -/
def Rank (w : World) (rb n : Nat) (rs : List Int) : Prop := w.ownsRow rb 3 1 (.slice (some ⟨rb, 0, none⟩) n n) n (rs.map (Value.int .i64))

theorem Rank.grown {w w' : World} {rb n : Nat} {rs : List Int} (h : Rank w rb n rs) (hb : Below w.heap.size w w') : Rank w' rb n rs := by
  obtain ⟨h1, h2⟩ := h
  refine ⟨h1, ?_⟩
  rcases h2 with h | ⟨g, cap, cur, hv, hg, hh, r⟩
  · exact Or.inl h
  · exact Or.inr ⟨g, cap, cur, hv, hg, by rw [hb.block g (Array.getElem?_eq_some_iff.1 hh).1]; exact hh, r⟩
theorem Rank.length {w : World} {rb n : Nat} {rs : List Int} (h : Rank w rb n rs) : rs.length = n := by
  have := h.1
  simpa using this
theorem Rank.cell {w : World} {rb n : Nat} {rs : List Int} (h : Rank w rb n rs) {j : Nat} (hj : j < n) : w.cell? ⟨rb, j, none⟩ = some (.int .i64 (rs.getD j 0)) := by
  have hl := h.length
  have h' : w.ownsRow rb 3 1 (.slice (some ⟨rb, 0, none⟩) n n) n (rs.map (Value.int .i64)) := h
  rw [h'.cellAt j (by omega)]
  simp [List.getD, show j < rs.length by omega]
theorem Rank.frozen {w : World} {rb n : Nat} {rs : List Int} (h : Rank w rb n rs) (j : Nat) : w.frozen? ⟨rb, j, none⟩ = false := by
  have h' : w.ownsRow rb 3 1 (.slice (some ⟨rb, 0, none⟩) n n) n (rs.map (Value.int .i64)) := h
  exact h'.frozenAt j
theorem Rank.set {w : World} {rb n : Nat} {rs : List Int} (h : Rank w rb n rs) (j : Nat) (x : Int) : Rank (w.setCell ⟨rb, j, none⟩ (.int .i64 x)) rb n (rs.set j x) := by
  have h' : w.ownsRow rb 3 1 (.slice (some ⟨rb, 0, none⟩) n n) n (rs.map (Value.int .i64)) := h
  have := (h'.stored j (.int .i64 x)).1
  rwa [map_set_ints] at this

theorem Below.drewN {B : Nat} {a w : World} (h : Below B a w) (n : Nat) : Below B a (w.drewN n) := ⟨h.os, h.tape, h.output, h.size, h.block⟩

/-- What stands behind k rounds. -/
def Ranked (ls : List (List UInt8)) (n k : Nat) (rs : List Int) : Prop := ∀ j, j < k → rs.getD j 0 = (place (repK ls n) (ls.getD j []) : Int)
theorem Ranked.step {ls : List (List UInt8)} {n k : Nat} {rs : List Int} (h : Ranked ls n k rs) (hl : rs.length = n) (hk : k < n) : Ranked ls n (k + 1) (rs.set k (place (repK ls n) (ls.getD k []) : Int)) := by
  intro j hj
  by_cases e : j = k
  · subst e
    simp [List.getD, show j < rs.length by omega]
  · rw [← h j (by omega)]
    simp [List.getD, List.getElem?_set_ne (Ne.symm e)]

set_option maxRecDepth 100000 in
set_option maxHeartbeats 4000000 in
theorem lawF_walk (a0 : Option Addr) (len0 cap0 : Nat) (ls : List (List UInt8)) (a1 : Option Addr) (len1 cap1 : Nat) (zs : List Int) (w : World)
    (w0 : RowS w a0 len0 cap0 ls) (w1 : Row64 w a1 len1 cap1 zs) :
    Calls Trym.prog 3 #[.slice a0 len0 cap0, .slice a1 len1 cap1] w fun e w' => e = .returned (.bool true) ∧ Below w.heap.size w w' := by
  have m0 : len0 ≤ maxLen := Nat.le_trans w0.le w0.small
  have m1 : len1 ≤ maxLen := Nat.le_trans w1.le w1.small
  go_enter Trym.func3, Trym.ntmps3
  go_wp2_with fail
  refine (bytes9_any _ _ _ _ _ _ _ _ w0 m1).mono ?_
  rintro e w' ⟨r, rfl, rfl⟩
  cases r
  · go_wp2
    go_ret
    exact ⟨rfl, Below.refl _ _⟩
  unfold maxLen at m0 m1
  by_cases l0 : 4096 < len0
  · go_wp2
    go_ret
    exact ⟨rfl, Below.refl _ _⟩
  by_cases l1 : 4096 < len1
  · go_wp2
    go_ret
    exact ⟨rfl, Below.refl _ _⟩
  go_wp2_with fail
  refine (over10_any _ _ _ _ _ _ w0 (by omega) (by omega)).mono ?_
  rintro e w'' ⟨r, rfl, rfl⟩
  cases r
  rotate_left
  · go_wp2
    go_ret
    exact ⟨rfl, Below.refl _ _⟩
  go_wp2_with fail
  refine (minInt_any len0 len1 _).mono ?_
  rintro e w3 ⟨rfl, rfl⟩
  have hn0 : min len0 len1 ≤ len0 := Nat.min_le_left _ _
  have hn1 : min len0 len1 ≤ len1 := Nat.min_le_right _ _
  generalize min len0 len1 = n at *
  have hn : n ≤ 4096 := by omega
  go_wp2_with fail
  refine (replay_any a0 len0 cap0 ls a1 len1 cap1 zs n w3 w0 w1 hn0 hn1 hn).mono ?_
  rintro e W1 ⟨gv, rfl, E, B⟩
  obtain ⟨ga, cp, rfl⟩ := shape_of E.row
  have HE := hidmk E
  have HB := hidmk B
  have HLN := hidmk (rep_length ls zs n)
  have hLK : (repO ls zs n).length ≤ 4096 := by rw [rep_length]; exact Nat.le_trans (repK_length_le ls n) hn
  clear E B
  generalize (repO ls zs n).length = LO at *
  obtain ⟨i0, hi, hz0, hz1, hz2⟩ := info_parts Trym.info3
  go_wp2_with (at_make; refine wpList_make_full _ rfl _ _ 30 rfl W1.heap.size 3 i0 (.int .i64 0) 1 Trym.underlying30 hi hz0 hz1 _ _ _ _ n rfl rfl (by omega) (by omega) (by rw [hz2]; omega) (by unfold maxLen; omega) (Nat.le_refl _) ?_; intro W2 hown hgrow)
  have B2 : Below W1.heap.size W1 W2 := (Below.refl _ _).grown hgrow (Nat.le_refl _) (fun k e => by cases e)
  have R2 : Rank W2 W1.heap.size n (List.replicate n 0) := by
    have := hown
    rw [show (Value.int IntKind.i64 0).cells = #[.int .i64 0] from rfl, Nat.mul_one, toList_madeCells_one] at this
    unfold Rank
    rwa [List.map_replicate]
  clear hown hgrow hi hz0 hz1 hz2
  go_wp2
  go_loopw [9, 10] (fun d i wr => ∃ (k : Nat) (rs : List Int), k ≤ n ∧ i = .int .i64 k ∧ d = .int .i64 ((repK ls k).length : Int) ∧ Below W1.heap.size W1 wr ∧ Rank wr W1.heap.size n rs ∧ Ranked ls n k rs) (fun _ i _ => n - (intOf i).toNat)
  case atStart => exact ⟨0, _, Nat.zero_le _, rfl, rfl, B2, R2, fun j hj => by omega⟩
  case round =>
    obtain ⟨k, rs, hk, rfl, rfl, B, R, hR⟩ := hrel
    clear B2 R2
    generalize wr = wo at *
    by_cases hlt : k < n
    · obtain ⟨b0, o0, rfl, lt0, c0⟩ : ∃ b off, a0 = some ⟨b, off, none⟩ ∧ b < w3.heap.size ∧ ∀ i, i < len0 → w3.cell? ⟨b, off + i, none⟩ = some (.string ⟨(ls.getD i []).toArray⟩) := by
        rcases w0.at_ with h | h
        · omega
        · exact h
      obtain ⟨b1, o1, rfl, lt1, c1⟩ : ∃ b off, a1 = some ⟨b, off, none⟩ ∧ b < w3.heap.size ∧ ∀ i, i < len1 → w3.cell? ⟨b, off + i, none⟩ = some (.int .i64 (zs.getD i 0)) := by
        rcases w1.at_ with h | h
        · omega
        · exact h
      have hbd := hidmk (w0.getD_le k)
      have C0 := hidmk c0
      have C1 := hidmk c1
      have HR := hidmk hR
      have HRK := hidmk R
      have HBR := hidmk B
      clear c0 c1 w0 w1 hR R B m0 m1 l0 l1
      generalize hD : (repK ls k).length = D at *
      have HD := hidmk hD
      generalize hs : ls.getD k [] = s at *
      have HS := hidmk hs
      clear hs hD
      go_wp2
      go_loopw [11, 12, 13] (fun f l j wx => ∃ m : Nat, m ≤ n ∧ j = .int .i64 m ∧ f = .int .i64 (fstTo ls s m) ∧ l = .int .i64 (lstTo ls s m) ∧ Below wo.heap.size wo wx) (fun _ _ j _ => n - (intOf j).toNat)
      case atStart => exact ⟨0, Nat.zero_le _, rfl, rfl, rfl, Below.refl _ _⟩
      case round =>
        obtain ⟨m, hm, rfl, rfl, rfl, BX⟩ := hrel
        have B0X : Below w3.heap.size w3 wr := HB.out.trans ((HBR.out.trans (BX.mono HBR.out.size)).mono HB.out.size)
        have ckk : wr.cell? ⟨b0, o0 + k, none⟩ = some (.string ⟨s.toArray⟩) := by rw [B0X.cell (p := ⟨b0, o0 + k, none⟩) lt0, C0.out k (by omega), HS.out]
        by_cases hmn : m < n
        · have ckm : wr.cell? ⟨b0, o0 + m, none⟩ = some (.string ⟨(ls.getD m []).toArray⟩) := by rw [B0X.cell (p := ⟨b0, o0 + m, none⟩) lt0, C0.out m (by omega)]
          have HBX := hidmk BX
          have ef : fstTo ls s (m + 1) = if ls.getD m [] = s then (if fstTo ls s m < 0 then (m : Int) else fstTo ls s m) else fstTo ls s m := rfl
          have el : lstTo ls s (m + 1) = if ls.getD m [] = s then (m : Int) else lstTo ls s m := rfl
          by_cases e : ls.getD m [] = s
          · rw [if_pos e] at ef el
            rw [e] at ckm
            generalize fstTo ls s m = F at *
            generalize lstTo ls s m = L at *
            have HF := hidmk ef
            have HL := hidmk el
            clear ef el BX B0X e
            generalize (⟨s.toArray⟩ : ByteArray) = S at *
            by_cases fz : F < 0
            · go_wp2
              go_quiet (fail)
              go_wp2
              go_roundw
              case rel => exact ⟨m + 1, hmn, by go_num, by rw [HF.out, if_pos fz], by rw [HL.out], ⟨HBX.out.os, HBX.out.tape, HBX.out.output, HBX.out.size, HBX.out.block⟩⟩
              case measure => simp [intOf]; omega
            · go_wp2
              go_quiet (fail)
              go_wp2
              go_roundw
              case rel => exact ⟨m + 1, hmn, by go_num, by rw [HF.out, if_neg (by omega)], by rw [HL.out], ⟨HBX.out.os, HBX.out.tape, HBX.out.output, HBX.out.size, HBX.out.block⟩⟩
              case measure => simp [intOf]; omega
          · rw [if_neg e] at ef el
            have e3 : ((⟨(ls.getD m []).toArray⟩ : ByteArray).toList == (⟨s.toArray⟩ : ByteArray).toList) = false := by rw [ByteArray.toList_mk, ByteArray.toList_mk]; exact beq_false_of_ne e
            generalize fstTo ls s m = F at *
            generalize lstTo ls s m = L at *
            have HF := hidmk ef
            have HL := hidmk el
            clear ef el BX B0X e
            generalize (⟨s.toArray⟩ : ByteArray) = S at *
            generalize (⟨(ls.getD m []).toArray⟩ : ByteArray) = T at *
            go_wp2
            go_quiet (fail)
            go_wp2
            go_roundw
            case rel => exact ⟨m + 1, hmn, by go_num, by rw [HF.out], by rw [HL.out], ⟨HBX.out.os, HBX.out.tape, HBX.out.output, HBX.out.size, HBX.out.block⟩⟩
            case measure => simp [intOf]; omega
        · have hmn' : n = m := by omega
          subst hmn'
          have B1X : Below W1.heap.size W1 wr := HBR.out.trans (BX.mono HBR.out.size)
          have RX : Rank wr W1.heap.size n rs := HRK.out.grown BX
          have hmem : s ∈ repK ls n := by rw [← HS.out]; exact rep_self hlt
          obtain ⟨p, hp1, hp2, hp3⟩ := lst_spec ls zs s n hmem
          have hpl := place_lt (repK ls n) s hmem
          rw [← HLN.out] at hpl
          have B1Y : Below W1.heap.size W1 (wr.setCell ⟨W1.heap.size, k, none⟩ (.int .i64 (place (repK ls n) s : Int))) := B1X.setCell (Nat.le_refl _) _
          have B0Y : Below w3.heap.size w3 (wr.setCell ⟨W1.heap.size, k, none⟩ (.int .i64 (place (repK ls n) s : Int))) := HB.out.trans (B1Y.mono HB.out.size)
          have RY := RX.set k (place (repK ls n) s : Int)
          have EY := HE.out.grown B1Y
          have hlk := EY.look s hbd.out
          simp only [hmem, decide_true] at hlk
          obtain ⟨eLO, gr, rfl, hgc⟩ := EY.cell (by rw [rep_length, ← HLN.out]; omega)
          have hgot := hgc (place (repK ls n) s) (by rw [← eLO]; exact hpl)
          have hoff : (wr.setCell ⟨W1.heap.size, k, none⟩ (.int .i64 (place (repK ls n) s : Int))).cell? ⟨b1, o1 + p, none⟩ = some (.int .i64 ((repO ls zs n).getD (place (repK ls n) s) 0)) := by
            rw [B0Y.cell (p := ⟨b1, o1 + p, none⟩) lt1, C1.out p (by omega), ← hp3]
            rfl
          have hkey : (wr.setCell ⟨W1.heap.size, k, none⟩ (.int .i64 (place (repK ls n) s : Int))).cell? ⟨b0, o0 + k, none⟩ = some (.string ⟨s.toArray⟩) := by
            rw [B0Y.cell (p := ⟨b0, o0 + k, none⟩) lt0, C0.out k (by omega), HS.out]
          have hcr : (wr.setCell ⟨W1.heap.size, k, none⟩ (.int .i64 (place (repK ls n) s : Int))).cell? ⟨W1.heap.size, k, none⟩ = some (.int .i64 (place (repK ls n) s : Int)) := by
            rw [RY.cell hlt]
            have := RX.length
            simp [List.getD, show k < rs.length by omega]
          have hco := RX.cell hlt
          have hfz := RX.frozen k
          have HRS : Hid (Ranked ls n (k + 1) (rs.set k (place (repK ls n) s : Int))) := by
            show _
            have := HR.out.step RX.length hlt
            rwa [HS.out] at this
          have HRY := hidmk RY
          have HB1Y := hidmk B1Y
          have HRR := hidmk HR.out
          have HRX := hidmk RX
          rw [hp1]
          clear EY hgc hp1 hp3 B0Y B1Y RY RX B1X B0X BX eLO
          generalize (repO ls zs n).getD (place (repK ls n) s) 0 = v at *
          generalize hpp : place (repK ls n) s = pl at *
          have HPP := hidmk hpp
          clear hpp
          have hLO : (pl : Int) < (LO : Int) := by omega
          have hLO' : ¬ ((LO : Int) ≤ (pl : Int)) := by omega
          by_cases hf : fstTo ls s n = k
          · obtain ⟨q1, q2⟩ := rank_new (ls := ls) (i := k) (n := n) hlt (by rw [HS.out]; exact hf)
            rw [HS.out, HD.out, HPP.out] at q1
            rw [HD.out] at q2
            rw [hf]
            subst q1
            have HQ := hidmk q2
            clear q2 hf
            go_wp2
            go_quiet (fail)
            go_wp2
            go_roundw
            case rel => exact ⟨k + 1, _, hlt, by go_num, by rw [HQ.out]; go_num, Below.drewN HB1Y.out nq, HRY.out, HRS.out⟩
            case measure => simp [intOf]; omega
          · obtain ⟨f, q1, q2, q3, q4⟩ := rank_old (ls := ls) (i := k) (n := n) hlt (by rw [HS.out]; exact hf)
            rw [HS.out] at q1 q3
            rw [HD.out] at q4
            have hfk : ¬ ((f : Int) = (k : Int)) := by omega
            have hfk' : ((f : Int) == (k : Int)) = false := by simp; omega
            have hcf : wr.cell? ⟨W1.heap.size, f, none⟩ = some (.int .i64 (pl : Int)) := by
              rw [HRX.out.cell (by omega), HRR.out f q2, q3, HPP.out]
            rw [q1]
            have HQ := hidmk q4
            clear q4 q3 q1 hf
            go_wp2
            go_quiet (fail)
            go_wp2
            go_roundw
            case rel => exact ⟨k + 1, _, hlt, by go_num, by rw [HQ.out], Below.drewN HB1Y.out nq, HRY.out, HRS.out⟩
            case measure => simp [intOf]; omega
    · obtain rfl : n = k := by omega
      have E := HE.out.grown B
      have hcount := E.count
      have hl := HLN.out
      rw [← hl] at hcount ⊢
      clear E hl hk hlt
      go_wp2
      go_ret
      exact ⟨rfl, HB.out.trans (B.mono HB.out.size)⟩
end Go.Proofs.Qxb6600089aMods
