/- The walk of FnKeyOffsetsSetOnDistinctKeysCommute. -/
import Derived.Test.Qxb6600089aModsMem
namespace Go.Proofs.Qxb6600089aMods
open Go.RowKit Go.Maps
set_option linter.unusedSimpArgs false
set_option linter.unusedVariables false

/-- ZZKeyOffsetsSet on the bytes of a string, as they come out of the conversion. -/
theorem zset_conv {base : Nat} {W : World} {bm : Nat} {gv : Value} {ks : List (List UInt8)} {os : List Int} {x : Int} (E : KO base W bm gv ks os) (l : List UInt8) (cap : Nat) (hl : l.length ≤ maxLen) (hx : (Lit.int .i64 x).wf = true) (hsm : ks.length < 5000) :
    Calls Trym.prog 14 #[.map (some bm), gv, .slice (some ⟨W.heap.size, 0, none⟩) l.length cap, .int .i64 x] ((W.alloc (kobj l cap)).drew) fun e w' => ∃ ga L cp, e = .returned (.tuple #[.map (some bm), .slice ga L cp]) ∧
      KO base w' bm (.slice ga L cp) (setK ks l) (setO ks os l x) ∧ L = (setO ks os l x).length ∧ Below base W w' := by
  refine (zset_any ((E.alloc _).drewN 1) (kobj_key W l cap) hl hx hsm).mono ?_
  rintro e w2 ⟨gv', h1, h2, h3⟩
  obtain ⟨ga, cp, rfl⟩ := shape_of h2.row
  exact ⟨ga, _, cp, h1, h2, rfl, ((Below.refl _ W).alloc E.size _).drew.trans h3⟩

theorem shape3 {w : World} {base n : Nat} {v : Value} {xs : List Value} (h : w.ownsRow base 2 1 v n xs) : ∃ (a : Option Addr) (L c : Nat), v = .slice a L c := by
  obtain ⟨a, c, rfl⟩ := shape_of h
  exact ⟨a, n, c, rfl⟩

theorem bytes_of (A : ByteArray) : ∃ l : List UInt8, A = ⟨l.toArray⟩ := ⟨A.data.toList, by cases A; simp⟩

theorem lookup_is {base : Nat} {w : World} {bm : Nat} {gv : Value} {ks : List (List UInt8)} {os : List Int} {x : Int} (E : KO base w bm gv ks os) (s : List UInt8) (hs : s.length ≤ maxLen) (hm : s ∈ ks) (hx : valAt ks os s = x) :
    Calls Trym.prog 15 #[.map (some bm), gv, .string ⟨s.toArray⟩] w fun e w' => e = .returned (.tuple #[.int .i64 x, .bool true]) ∧ w' = w := by
  subst hx
  exact lookup_any E s hs hm

set_option maxRecDepth 100000 in
set_option maxHeartbeats 4000000 in
theorem lawG_walk (a0 : Option Addr) (len0 cap0 : Nat) (ls : List (List UInt8)) (a1 : Option Addr) (len1 cap1 : Nat) (zs : List Int) (A B : ByteArray) (x y : Int) (w : World)
    (w0 : RowS w a0 len0 cap0 ls) (w1 : Row64 w a1 len1 cap1 zs) (wA : A.size ≤ maxLen) (wB : B.size ≤ maxLen) (wx : (Lit.int .i64 x).wf = true) (wy : (Lit.int .i64 y).wf = true) :
    Calls Trym.prog 4 #[.slice a0 len0 cap0, .slice a1 len1 cap1, .string A, .string B, .int .i64 x, .int .i64 y] w fun e w' => e = .returned (.bool true) ∧ Below w.heap.size w w' := by
  have m0 : len0 ≤ maxLen := Nat.le_trans w0.le w0.small
  have m1 : len1 ≤ maxLen := Nat.le_trans w1.le w1.small
  have WX := hidmk wx
  have WY := hidmk wy
  clear wx wy
  go_enter Trym.func4, Trym.ntmps4
  go_wp2_with fail
  refine (bytes13_any _ _ _ _ _ _ _ A B x y _ w0 m1 wA wB).mono ?_
  rintro e w' ⟨r, rfl, rfl⟩
  cases r
  · go_wp2
    go_ret
    exact ⟨rfl, Below.refl _ _⟩
  have HA := hidmk wA
  have HB := hidmk wB
  unfold maxLen at m0 m1 wA wB
  by_cases l0 : 4096 < len0
  · go_wp2
    go_ret
    exact ⟨rfl, Below.refl _ _⟩
  by_cases l1 : 4096 < len1
  · go_wp2
    go_ret
    exact ⟨rfl, Below.refl _ _⟩
  by_cases l2 : 524288 < A.size
  · go_wp2
    go_ret
    exact ⟨rfl, Below.refl _ _⟩
  by_cases l3 : 524288 < B.size
  · go_wp2
    go_ret
    exact ⟨rfl, Below.refl _ _⟩
  go_wp2_with fail
  refine (over10_any _ _ _ _ _ _ w0 (by omega) (by omega)).mono ?_
  rintro e w'' ⟨r, rfl, rfl⟩
  cases r
  rotate_left
  · go_wp2
    go_ret
    exact ⟨rfl, Below.refl _ _⟩
  obtain ⟨la, eA⟩ := bytes_of A
  obtain ⟨lb, eB⟩ := bytes_of B
  by_cases hab : la = lb
  · have : A = B := by rw [eA, eB, hab]
    subst this
    clear eA eB
    go_wp2
    go_ret
    exact ⟨rfl, Below.refl _ _⟩
  have e3 : (A.toList == B.toList) = false := by rw [eA, eB, ByteArray.toList_mk, ByteArray.toList_mk]; exact beq_false_of_ne hab
  have EA := hidmk eA
  have EB := hidmk eB
  have HAB := hidmk hab
  clear eA eB hab
  go_wp2_with fail
  refine (minInt_any len0 len1 _).mono ?_
  rintro e w3 ⟨rfl, rfl⟩
  have hn0 : min len0 len1 ≤ len0 := Nat.min_le_left _ _
  have hn1 : min len0 len1 ≤ len1 := Nat.min_le_right _ _
  generalize min len0 len1 = n at *
  have hn : n ≤ 4096 := by omega
  have eA := EA.out
  have eB := EB.out
  clear EA EB e3
  subst eA
  subst eB
  have hla : Hid (la.length ≤ maxLen) := HA.out
  have hlb : Hid (lb.length ≤ maxLen) := HB.out
  clear wA wB l2 l3 HA HB m0 m1 l0 l1
  go_wp2_with fail
  refine (replay_any a0 len0 cap0 ls a1 len1 cap1 zs n w3 w0 w1 hn0 hn1 hn).mono ?_
  rintro e W1 ⟨gv, rfl, E, B1⟩
  obtain ⟨ga, LO, cp, rfl⟩ := shape3 E.row
  have hsm : (repK ls n).length ≤ 4096 := Nat.le_trans (repK_length_le ls n) hn
  generalize hK : repK ls n = K at *
  generalize hO : repO ls zs n = O at *
  have HK := hidmk hK
  have HO := hidmk hO
  have HOK := hidmk E.len
  have s1 := setK_length_le K la
  have s2 := setK_length_le K lb
  have HE := hidmk E
  clear hK hO E
  obtain ⟨c1, hcv⟩ := conv934 la W1
  go_wp2_with fail
  refine (zset_conv HE.out la c1 hla.out WX.out (by omega)).mono ?_
  rintro e W2 ⟨ga2, L2, cp2, rfl, E2, hL2, B2⟩
  have HE2 := hidmk E2
  clear hcv E2 HE hL2
  obtain ⟨c2, hcv⟩ := conv934 lb W2
  go_wp2_with fail
  refine (zset_conv HE2.out lb c2 hlb.out WY.out (by omega)).mono ?_
  rintro e W3 ⟨ga3, L3, cp3, rfl, E3, hL3, B3⟩
  have HL3 : Hid (L3 = (setK (setK K la) lb).length) := by
    show L3 = _
    rw [hL3, set_length (set_length HOK.out la x) lb y]
  have HE3 := hidmk E3
  clear hcv E3 HE2 hL3
  have B03 : Below w3.heap.size w3 W3 := (B1.trans B2).trans B3
  have w0' := w0.grown B03
  have w1' := w1.grown B03
  have HB03 := hidmk B03
  clear B1 B2 B3 B03
  go_wp2_with fail
  refine (replay_any a0 len0 cap0 ls a1 len1 cap1 zs n W3 w0' w1' hn0 hn1 hn).mono ?_
  rintro e W4 ⟨gv4, rfl, E4, B4⟩
  obtain ⟨ga4, L4, cp4, rfl⟩ := shape3 E4.row
  rw [HK.out, HO.out] at E4
  have HE4 := hidmk E4
  clear E4
  obtain ⟨c5, hcv⟩ := conv934 lb W4
  go_wp2_with fail
  refine (zset_conv HE4.out lb c5 hlb.out WY.out (by omega)).mono ?_
  rintro e W5 ⟨ga5, L5, cp5, rfl, E5, hL5, B5⟩
  have HE5 := hidmk E5
  clear hcv E5 HE4 hL5
  obtain ⟨c6, hcv⟩ := conv934 la W5
  go_wp2_with fail
  refine (zset_conv HE5.out la c6 hla.out WX.out (by omega)).mono ?_
  rintro e W6 ⟨ga6, L6, cp6, rfl, E6, hL6, B6⟩
  clear hcv HE5
  have hL36 : L6 = L3 := by
    rw [hL6, HL3.out, set_length (set_length HOK.out lb y) la x, comm_length K HAB.out]
  subst hL36
  have B36 : Below W3.heap.size W3 W6 := (B4.trans B5).trans B6
  have E36 := HE3.out.grown B36
  have B06 : Below w3.heap.size w3 W6 := HB03.out.trans (B36.mono HB03.out.size)
  clear B4 B5 B6 HE3 w0' w1' B36
  have hc1 := E36.count
  have hc2 := E6.count
  rw [← comm_length K HAB.out] at hc2
  have HB06 := hidmk B06
  have HE1 := hidmk E36
  have HE2 := hidmk E6
  clear B06 E36 E6 hL6 HL3 HB03
  have ma : la ∈ setK (setK K la) lb := (mem_setK _ _ _).2 (Or.inr ((mem_setK _ _ _).2 (Or.inl rfl)))
  have mb : lb ∈ setK (setK K la) lb := (mem_setK _ _ _).2 (Or.inl rfl)
  have va := two_vals HOK.out x y HAB.out la ma
  have vb := two_vals HOK.out x y HAB.out lb mb
  rw [if_neg HAB.out, if_pos rfl] at va
  rw [if_pos rfl] at vb
  have HVA := hidmk va
  have HVB := hidmk vb
  have HMA := hidmk ma
  have HMB := hidmk mb
  clear ma mb va vb
  generalize (setK (setK K la) lb).length = N at *
  go_wp2_with fail
  refine (lookup_is HE1.out la hla.out HMA.out HVA.out).mono ?_
  rintro e W7 ⟨rfl, rfl⟩
  clear hc1 hc2
  go_wp2_with fail
  refine (lookup_is HE1.out lb hlb.out HMB.out HVB.out).mono ?_
  rintro e W8 ⟨rfl, rfl⟩
  go_wp2_with fail
  refine (sameLookup_any HE1.out HE2.out la hla.out (comm_mem K la lb la) (fun h => comm_val HOK.out x y HAB.out la h)).mono ?_
  rintro e W9 ⟨rfl, B9⟩
  go_wp2_with fail
  refine (sameLookup_any (HE1.out.grown B9) (HE2.out.grown B9) lb hlb.out (comm_mem K la lb lb) (fun h => comm_val HOK.out x y HAB.out lb h)).mono ?_
  rintro e W10 ⟨rfl, B10⟩
  have B8 : Below W8.heap.size W8 W10 := B9.trans (B10.mono B9.size)
  clear B9 B10
  go_wp2
  go_loopw [22] (fun i wr => ∃ k : Nat, k ≤ n ∧ i = .int .i64 k ∧ Below W8.heap.size W8 wr) (fun i _ => n - (intOf i).toNat)
  case atStart => exact ⟨0, Nat.zero_le _, rfl, B8⟩
  case round =>
    obtain ⟨k, hk, rfl, BR⟩ := hrel
    have B0R : Below w3.heap.size w3 wr := HB06.out.trans (BR.mono HB06.out.size)
    by_cases hlt : k < n
    · obtain ⟨b0, o0, rfl, lt0, c0⟩ : ∃ b off, a0 = some ⟨b, off, none⟩ ∧ b < w3.heap.size ∧ ∀ i, i < len0 → w3.cell? ⟨b, off + i, none⟩ = some (.string ⟨(ls.getD i []).toArray⟩) := by
        rcases w0.at_ with h | h
        · omega
        · exact h
      have ck : wr.cell? ⟨b0, o0 + k, none⟩ = some (.string ⟨(ls.getD k []).toArray⟩) := by rw [B0R.cell (p := ⟨b0, o0 + k, none⟩) lt0, c0 k (by omega)]
      have hbd := hidmk (w0.getD_le k)
      have HR := hidmk BR
      clear c0 w0 w1 B0R BR B8
      generalize ls.getD k [] = s at *
      have i1 : (k : Int) < (len0 : Int) := by omega
      go_wp2_with fail
      refine (sameLookup_any (HE1.out.grown HR.out) (HE2.out.grown HR.out) s hbd.out (comm_mem K la lb s) (fun h => comm_val HOK.out x y HAB.out s h)).mono ?_
      rintro e W11 ⟨rfl, B11⟩
      go_wp2
      go_roundw
      case rel => exact ⟨k + 1, hlt, by go_num, HR.out.trans (B11.mono HR.out.size)⟩
      case measure => simp [intOf]; omega
    · have HR := hidmk B0R
      clear B0R BR B8
      go_wp2
      go_ret
      exact ⟨rfl, HR.out⟩
end Go.Proofs.Qxb6600089aMods
