/- zzReplay: the script's first n sets on an empty keyOffsets. -/
import Derived.Test.Qxb6600089aModsZSet
import Derived.SliceStrings
import Derived.Deep.RegionWith
namespace Go.Proofs.Qxb6600089aMods
open Go.RowKit Go.Maps
set_option linter.unusedSimpArgs false
set_option linter.unusedVariables false

/-- A SLICE OF STRINGS: the lists of bytes ls are its elements. -/
structure RowS (w : World) (a : Option Addr) (len cap : Nat) (ls : List (List UInt8)) : Prop where
  length : ls.length = len
  nil : a = none → len = 0 ∧ cap = 0
  small : cap ≤ maxLen
  le : len ≤ cap
  at_ : len = 0 ∨ ∃ b off, a = some ⟨b, off, none⟩ ∧ b < w.heap.size ∧ ∀ i, i < len → w.cell? ⟨b, off + i, none⟩ = some (.string ⟨(ls.getD i []).toArray⟩)
  bound : ∀ l ∈ ls, l.length ≤ maxLen

theorem RowS.grown {w w' : World} {a : Option Addr} {len cap : Nat} {ls : List (List UInt8)} (h : RowS w a len cap ls) (hb : Below w.heap.size w w') : RowS w' a len cap ls := by
  refine ⟨h.length, h.nil, h.small, h.le, ?_, h.bound⟩
  rcases h.at_ with h0 | ⟨b, off, ha, hlt, hc⟩
  · exact Or.inl h0
  · exact Or.inr ⟨b, off, ha, Nat.lt_of_lt_of_le hlt hb.size, fun i hi => by rw [hb.cell (p := ⟨b, off + i, none⟩) hlt]; exact hc i hi⟩

theorem RowS.getD_le {w : World} {a : Option Addr} {len cap : Nat} {ls : List (List UInt8)} (h : RowS w a len cap ls) (i : Nat) : (ls.getD i []).length ≤ maxLen := by
  by_cases hi : i < ls.length
  · have e : ls.getD i [] = ls[i] := by simp [List.getD, hi]
    rw [e]
    exact h.bound _ (List.getElem_mem hi)
  · have e : ls.getD i [] = [] := by simp [List.getD, show ls[i]? = none from List.getElem?_eq_none (by omega)]
    rw [e]
    simp

/-- THE PLAIN REPLAY: the keys (the newest first), the offsets in slot order. -/
def repK (ls : List (List UInt8)) : Nat → List (List UInt8)
  | 0 => []
  | n + 1 => setK (repK ls n) (ls.getD n [])
def repO (ls : List (List UInt8)) (zs : List Int) : Nat → List Int
  | 0 => []
  | n + 1 => setO (repK ls n) (repO ls zs n) (ls.getD n []) (zs.getD n 0)

theorem repK_length_le (ls : List (List UInt8)) : ∀ n, (repK ls n).length ≤ n
  | 0 => by simp [repK]
  | n + 1 => by
    have := repK_length_le ls n
    have := setK_length_le (repK ls n) (ls.getD n [])
    simp only [repK]
    omega

/-- The block that a conversion of a string to bytes lays. -/
def kobj (l : List UInt8) (cap : Nat) : Obj := .cells (bytesRow ⟨l.toArray⟩ cap) 5 ((bytesRow ⟨l.toArray⟩ cap).size, (bytesRow ⟨l.toArray⟩ cap).size + 1)

theorem conv934 (l : List UInt8) (W : World) : ∃ cap, (convert 9 34 (.string ⟨l.toArray⟩)).run Trym.prog W = .ok (.slice (some ⟨W.heap.size, 0, none⟩) l.length cap) (W.drew.alloc (kobj l cap)) := by
  refine ⟨grownCap W l.length 0 5, ?_⟩
  have := run_bytes_of_string (P := Trym.prog) W 9 34 5 ⟨l.toArray⟩ Trym.underlying9 Trym.underlying34 Trym.underlying5
  simpa [kobj, ByteArray.size] using this

theorem kobj_key (W : World) (l : List UInt8) (cap : Nat) : KeyAt (W.alloc (kobj l cap)) W.heap.size l := by
  refine ⟨_, _, _, heap_alloc_new W _, fun j hj => ?_⟩
  simp only [bytesRow]
  rw [Array.getElem?_append_left (by simpa using hj)]
  simp [hj]

theorem replay_zero (a0 : Option Addr) (len0 cap0 : Nat) (a1 : Option Addr) (len1 cap1 : Nat) (w : World) :
    Calls Trym.prog 12 #[.slice a0 len0 cap0, .slice a1 len1 cap1, .int .i64 0] w fun e w' => ∃ gv, e = .returned (.tuple #[.map (some w.heap.size), gv]) ∧ KO w.heap.size w' w.heap.size gv [] [] ∧ Below w.heap.size w w' := by
  have hmm := @run_makeMap Trym.prog
  go_enter Trym.func12, Trym.ntmps12
  go_wp2
  refine wp_loop_rounds 1 ?_
  rw [rounds_succ]
  go_wp2
  go_ret2
  exact ⟨_, rfl, ⟨Nat.le_refl _, World.ownsMap_made _ _ _ _, World.ownsRow_nil _ _ _ _, rfl, List.nodup_nil, by simp, by simp⟩, (Below.refl _ w).alloc (Nat.le_refl _) _⟩

set_option maxHeartbeats 2000000 in
theorem replay_pos (a0 : Option Addr) (len0 cap0 : Nat) (ls : List (List UInt8)) (a1 : Option Addr) (len1 cap1 : Nat) (zs : List Int) (n : Nat) (w : World) (h0 : RowS w a0 len0 cap0 ls) (h1 : Row64 w a1 len1 cap1 zs) (hn0 : n ≤ len0) (hn1 : n ≤ len1) (hn : n ≤ 4096) (hp : 0 < n) :
    Calls Trym.prog 12 #[.slice a0 len0 cap0, .slice a1 len1 cap1, .int .i64 n] w fun e w' => ∃ gv, e = .returned (.tuple #[.map (some w.heap.size), gv]) ∧ KO w.heap.size w' w.heap.size gv (repK ls n) (repO ls zs n) ∧ Below w.heap.size w w' := by
  obtain ⟨b0, o0, rfl, lt0, c0⟩ : ∃ b off, a0 = some ⟨b, off, none⟩ ∧ b < w.heap.size ∧ ∀ i, i < len0 → w.cell? ⟨b, off + i, none⟩ = some (.string ⟨(ls.getD i []).toArray⟩) := by
    rcases h0.at_ with h | h
    · omega
    · exact h
  obtain ⟨b1, o1, rfl, lt1, c1⟩ : ∃ b off, a1 = some ⟨b, off, none⟩ ∧ b < w.heap.size ∧ ∀ i, i < len1 → w.cell? ⟨b, off + i, none⟩ = some (.int .i64 (zs.getD i 0)) := by
    rcases h1.at_ with h | h
    · omega
    · exact h
  have hbd := h0.getD_le
  have hwf : ∀ i, (Lit.int .i64 (zs.getD i 0)).wf = true := fun i => by
    by_cases hi : i < zs.length
    · have e : zs.getD i 0 = zs[i] := by simp [List.getD, hi]
      rw [e]; exact h1.wf _ (List.getElem_mem hi)
    · have e : zs.getD i 0 = 0 := by simp [List.getD, show zs[i]? = none from List.getElem?_eq_none (by omega)]
      rw [e]; decide
  have l0 : len0 ≤ maxLen := Nat.le_trans h0.le h0.small
  have l1 : len1 ≤ maxLen := Nat.le_trans h1.le h1.small
  unfold maxLen at l0 l1
  have BD := hidmk hbd
  have WF := hidmk hwf
  clear hbd hwf
  have hmm := @run_makeMap Trym.prog
  go_enter Trym.func12, Trym.ntmps12
  go_wp2
  clear hmm
  go_loopw [8, 9, 10] (fun m v i wr => ∃ k : Nat, k ≤ n ∧ i = .int .i64 k ∧ m = .map (some w.heap.size) ∧ KO w.heap.size wr w.heap.size v (repK ls k) (repO ls zs k) ∧ Below w.heap.size w wr) (fun _ _ i _ => n - (intOf i).toNat)
  case atStart => exact ⟨0, Nat.zero_le _, rfl, rfl, ⟨Nat.le_refl _, World.ownsMap_made _ _ _ _, World.ownsRow_nil _ _ _ _, rfl, List.nodup_nil, by simp [repO], by simp [repK]⟩, (Below.refl _ w).alloc (Nat.le_refl _) _⟩
  case round =>
    obtain ⟨k, hk, rfl, rfl, E, B⟩ := hrel
    obtain ⟨ga, cp, rfl⟩ := shape_of E.row
    by_cases hlt : k < n
    · have ck0 : wr.cell? ⟨b0, o0 + k, none⟩ = some (.string ⟨(ls.getD k []).toArray⟩) := by rw [B.cell (p := ⟨b0, o0 + k, none⟩) lt0]; exact c0 k (by omega)
      have ck1 : wr.cell? ⟨b1, o1 + k, none⟩ = some (.int .i64 (zs.getD k 0)) := by rw [B.cell (p := ⟨b1, o1 + k, none⟩) lt1]; exact c1 k (by omega)
      have hlb := BD.out k
      have hzw := WF.out k
      have hsm : (repK ls k).length < 5000 := by have := repK_length_le ls k; omega
      have EK : repK ls (k + 1) = setK (repK ls k) (ls.getD k []) := rfl
      have EO : repO ls zs (k + 1) = setO (repK ls k) (repO ls zs k) (ls.getD k []) (zs.getD k 0) := rfl
      generalize ls.getD k [] = l at *
      generalize zs.getD k 0 = z at *
      have HEK := hidmk EK
      have HEO := hidmk EO
      have HE := hidmk E
      have HB := hidmk B
      have HLB := hidmk hlb
      have HZW := hidmk hzw
      clear EK EO E B c0 c1 hlb hzw h0 h1 BD WF
      generalize (repO ls zs k).length = lo at *
      obtain ⟨cap, hcv⟩ := conv934 l wr.drew
      have i1 : (k : Int) < (len0 : Int) := by omega
      have i2 : (k : Int) < (len1 : Int) := by omega
      have ck1' : ∀ o, (wr.alloc o).cell? ⟨b1, o1 + k, none⟩ = some (.int .i64 z) := fun o => by
        rw [World.cell?_alloc_lt _ _ _ (Nat.lt_of_lt_of_le lt1 HB.out.size)]; exact ck1
      have Z : Calls Trym.prog 14 #[.map (some w.heap.size), .slice ga lo cp, .slice (some ⟨wr.heap.size, 0, none⟩) l.length cap, .int .i64 z] ((wr.alloc (kobj l cap)).drew.drew) fun e w' => ∃ gv', e = .returned (.tuple #[.map (some w.heap.size), gv']) ∧
          KO w.heap.size w' w.heap.size gv' (repK ls (k + 1)) (repO ls zs (k + 1)) ∧ Below w.heap.size w w' := by
        refine (zset_any ((HE.out.alloc _).drewN 2) (kobj_key wr l cap) HLB.out HZW.out hsm).mono ?_
        rintro e w2 ⟨gv', h1, h2, h3⟩
        rw [HEK.out, HEO.out]
        exact ⟨gv', h1, h2, (HB.out.alloc HB.out.size _).drew.drew.trans h3⟩
      go_wp2
      go_region_with (go_at_call 14; refine Z.mono ?_; rintro e w2 ⟨gv', rfl, hE2, hB2⟩)
      all_goals
        go_wp2
        go_roundw
        case rel => exact ⟨k + 1, hlt, by simp, rfl, hE2, hB2⟩
        case measure => show n - ((k : Int) + 1).toNat < n - ((k : Int)).toNat; omega
    · go_wp2
      go_ret2
      have : k = n := by omega
      subst this
      exact ⟨_, rfl, E, B⟩

/-- zzReplay of the first n sets: the plain replay; the map is the first block that it makes. -/
theorem replay_any (a0 : Option Addr) (len0 cap0 : Nat) (ls : List (List UInt8)) (a1 : Option Addr) (len1 cap1 : Nat) (zs : List Int) (n : Nat) (w : World) (h0 : RowS w a0 len0 cap0 ls) (h1 : Row64 w a1 len1 cap1 zs) (hn0 : n ≤ len0) (hn1 : n ≤ len1) (hn : n ≤ 4096) :
    Calls Trym.prog 12 #[.slice a0 len0 cap0, .slice a1 len1 cap1, .int .i64 n] w fun e w' => ∃ gv, e = .returned (.tuple #[.map (some w.heap.size), gv]) ∧ KO w.heap.size w' w.heap.size gv (repK ls n) (repO ls zs n) ∧ Below w.heap.size w w' := by
  by_cases hp : 0 < n
  · exact replay_pos a0 len0 cap0 ls a1 len1 cap1 zs n w h0 h1 hn0 hn1 hn hp
  · obtain rfl : n = 0 := by omega
    exact replay_zero a0 len0 cap0 a1 len1 cap1 w
end Go.Proofs.Qxb6600089aMods
