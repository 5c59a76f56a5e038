/- The bounds on total length: each answers some Boolean and leaves the world as it was. -/
import Derived.Test.Qxb6600089aModsReplay
namespace Go.Proofs.Qxb6600089aMods
open Go.RowKit Go.Maps Go.ChangeShapes
set_option linter.unusedSimpArgs false
set_option linter.unusedVariables false

theorem RowS.one {w : World} {a : Option Addr} {len cap : Nat} {ls : List (List UInt8)} (h : RowS w a len cap ls) {k : Nat} (hk : k < len) :
    ∃ b off bs, a = some ⟨b, off, none⟩ ∧ w.cell? ⟨b, off + k, none⟩ = some (.string bs) ∧ bs.size ≤ maxLen := by
  rcases h.at_ with h0 | ⟨b, off, ha, _, hc⟩
  · omega
  · exact ⟨b, off, _, ha, hc k hk, h.getD_le k⟩

theorem bytes9_any (a0 : Option Addr) (len0 cap0 : Nat) (ls : List (List UInt8)) (a1 : Option Addr) (len1 cap1 : Nat) (w : World) (h0 : RowS w a0 len0 cap0 ls) (l1 : len1 ≤ maxLen) :
    Calls Trym.prog 9 #[.slice a0 len0 cap0, .slice a1 len1 cap1] w fun e w' => ∃ r : Bool, e = .returned (.bool r) ∧ w' = w := by
  have l0 : len0 ≤ maxLen := Nat.le_trans h0.le h0.small
  unfold maxLen at l0 l1
  go_enter Trym.func9, Trym.ntmps9
  by_cases t0 : 1048576 < len0
  · go_wp2
    go_ret
    first | exact ⟨_, rfl, rfl⟩ | exact ⟨Or.inl rfl, rfl⟩ | exact ⟨Or.inr rfl, rfl⟩
  go_wp2
  go_loop [5, 6] (fun s i => ∃ k t : Nat, k ≤ len0 ∧ t ≤ 1048576 ∧ i = .int .i64 k ∧ s = .int .i64 t) (fun _ i => len0 - (intOf i).toNat)
  case atStart => exact ⟨0, len0, Nat.zero_le _, by omega, rfl, by simp⟩
  case round =>
    obtain ⟨k, t, hk, ht, rfl, rfl⟩ := hrel
    by_cases hlt : k < len0
    · obtain ⟨b, off, bs, rfl, hc, hbs⟩ := h0.one hlt
      unfold maxLen at hbs
      clear h0
      by_cases t1 : 1048576 < bs.size
      · go_wp2
        go_ret
        first | exact ⟨_, rfl, rfl⟩ | exact ⟨Or.inl rfl, rfl⟩ | exact ⟨Or.inr rfl, rfl⟩
      by_cases t2 : 1048576 < t + bs.size
      · go_wp2
        go_ret
        first | exact ⟨_, rfl, rfl⟩ | exact ⟨Or.inl rfl, rfl⟩ | exact ⟨Or.inr rfl, rfl⟩
      go_wp2
      go_round
      case rel => exact ⟨k + 1, t + bs.size, by omega, by omega, by go_num, by go_num⟩
      case measure => simp [intOf]; omega
    · clear h0
      go_wp2
      all_goals
        go_ret
        first | exact ⟨_, rfl, rfl⟩ | exact ⟨Or.inl rfl, rfl⟩ | exact ⟨Or.inr rfl, rfl⟩

theorem bytes13_any (a0 : Option Addr) (len0 cap0 : Nat) (ls : List (List UInt8)) (a1 : Option Addr) (len1 cap1 : Nat) (A B : ByteArray) (x y : Int) (w : World) (h0 : RowS w a0 len0 cap0 ls) (l1 : len1 ≤ maxLen) (la : A.size ≤ maxLen) (lb : B.size ≤ maxLen) :
    Calls Trym.prog 13 #[.slice a0 len0 cap0, .slice a1 len1 cap1, .string A, .string B, .int .i64 x, .int .i64 y] w fun e w' => ∃ r : Bool, e = .returned (.bool r) ∧ w' = w := by
  have l0 : len0 ≤ maxLen := Nat.le_trans h0.le h0.small
  unfold maxLen at l0 l1 la lb
  go_enter Trym.func13, Trym.ntmps13
  by_cases t0 : 1048576 < len0
  · go_wp2
    go_ret
    first | exact ⟨_, rfl, rfl⟩ | exact ⟨Or.inl rfl, rfl⟩ | exact ⟨Or.inr rfl, rfl⟩
  go_wp2
  go_loop [13, 14] (fun s i => ∃ k t : Nat, k ≤ len0 ∧ t ≤ 1048576 ∧ i = .int .i64 k ∧ s = .int .i64 t) (fun _ i => len0 - (intOf i).toNat)
  case atStart => exact ⟨0, len0, Nat.zero_le _, by omega, rfl, by simp⟩
  case round =>
    obtain ⟨k, t, hk, ht, rfl, rfl⟩ := hrel
    by_cases hlt : k < len0
    · obtain ⟨b, off, bs, rfl, hc, hbs⟩ := h0.one hlt
      unfold maxLen at hbs
      clear h0
      by_cases t1 : 1048576 < bs.size
      · go_wp2
        go_ret
        first | exact ⟨_, rfl, rfl⟩ | exact ⟨Or.inl rfl, rfl⟩ | exact ⟨Or.inr rfl, rfl⟩
      by_cases t2 : 1048576 < t + bs.size
      · go_wp2
        go_ret
        first | exact ⟨_, rfl, rfl⟩ | exact ⟨Or.inl rfl, rfl⟩ | exact ⟨Or.inr rfl, rfl⟩
      go_wp2
      go_round
      case rel => exact ⟨k + 1, t + bs.size, by omega, by omega, by go_num, by go_num⟩
      case measure => simp [intOf]; omega
    · clear h0
      go_wp2
      all_goals
        go_ret
        first | exact ⟨_, rfl, rfl⟩ | exact ⟨Or.inl rfl, rfl⟩ | exact ⟨Or.inr rfl, rfl⟩

theorem bytes17_any (a0 : Option Addr) (len0 cap0 : Nat) (ls : List (List UInt8)) (a1 : Option Addr) (len1 cap1 : Nat) (A : ByteArray) (x y : Int) (w : World) (h0 : RowS w a0 len0 cap0 ls) (l1 : len1 ≤ maxLen) (la : A.size ≤ maxLen) :
    Calls Trym.prog 17 #[.slice a0 len0 cap0, .slice a1 len1 cap1, .string A, .int .i64 x, .int .i64 y] w fun e w' => ∃ r : Bool, e = .returned (.bool r) ∧ w' = w := by
  have l0 : len0 ≤ maxLen := Nat.le_trans h0.le h0.small
  unfold maxLen at l0 l1 la
  go_enter Trym.func17, Trym.ntmps17
  by_cases t0 : 1048576 < len0
  · go_wp2
    go_ret
    first | exact ⟨_, rfl, rfl⟩ | exact ⟨Or.inl rfl, rfl⟩ | exact ⟨Or.inr rfl, rfl⟩
  go_wp2
  go_loop [11, 12] (fun s i => ∃ k t : Nat, k ≤ len0 ∧ t ≤ 1048576 ∧ i = .int .i64 k ∧ s = .int .i64 t) (fun _ i => len0 - (intOf i).toNat)
  case atStart => exact ⟨0, len0, Nat.zero_le _, by omega, rfl, by simp⟩
  case round =>
    obtain ⟨k, t, hk, ht, rfl, rfl⟩ := hrel
    by_cases hlt : k < len0
    · obtain ⟨b, off, bs, rfl, hc, hbs⟩ := h0.one hlt
      unfold maxLen at hbs
      clear h0
      by_cases t1 : 1048576 < bs.size
      · go_wp2
        go_ret
        first | exact ⟨_, rfl, rfl⟩ | exact ⟨Or.inl rfl, rfl⟩ | exact ⟨Or.inr rfl, rfl⟩
      by_cases t2 : 1048576 < t + bs.size
      · go_wp2
        go_ret
        first | exact ⟨_, rfl, rfl⟩ | exact ⟨Or.inl rfl, rfl⟩ | exact ⟨Or.inr rfl, rfl⟩
      go_wp2
      go_round
      case rel => exact ⟨k + 1, t + bs.size, by omega, by omega, by go_num, by go_num⟩
      case measure => simp [intOf]; omega
    · clear h0
      go_wp2
      all_goals
        go_ret
        first | exact ⟨_, rfl, rfl⟩ | exact ⟨Or.inl rfl, rfl⟩ | exact ⟨Or.inr rfl, rfl⟩

theorem over10_any (a0 : Option Addr) (len0 cap0 : Nat) (ls : List (List UInt8)) (lim : Int) (w : World) (h0 : RowS w a0 len0 cap0 ls) (h4 : len0 ≤ 4096) (hl : lim ≤ 1048576) :
    Calls Trym.prog 10 #[.slice a0 len0 cap0, .int .i64 lim] w fun e w' => ∃ r : Bool, e = .returned (.bool r) ∧ w' = w := by
  go_enter Trym.func10, Trym.ntmps10
  by_cases t0 : lim < 0
  · go_wp2
    go_ret
    first | exact ⟨_, rfl, rfl⟩ | exact ⟨Or.inl rfl, rfl⟩ | exact ⟨Or.inr rfl, rfl⟩
  obtain ⟨L, rfl⟩ : ∃ L : Nat, lim = L := ⟨lim.toNat, by omega⟩
  have hL : L ≤ 1048576 := by omega
  clear hl
  go_wp2
  go_loop [5, 6] (fun s i => ∃ k t : Nat, k ≤ len0 ∧ t ≤ L ∧ i = .int .i64 k ∧ s = .int .i64 t) (fun _ i => len0 - (intOf i).toNat)
  case atStart => exact ⟨0, 0, Nat.zero_le _, by omega, rfl, by simp⟩
  case round =>
    obtain ⟨k, t, hk, ht, rfl, rfl⟩ := hrel
    by_cases hlt : k < len0
    · obtain ⟨b, off, bs, rfl, hc, hbs⟩ := h0.one hlt
      unfold maxLen at hbs
      clear h0
      by_cases t1 : L < bs.size
      · go_wp2
        go_ret
        first | exact ⟨_, rfl, rfl⟩ | exact ⟨Or.inl rfl, rfl⟩ | exact ⟨Or.inr rfl, rfl⟩
      by_cases t2 : L < t + 8 + bs.size
      · go_wp2
        go_ret
        first | exact ⟨_, rfl, rfl⟩ | exact ⟨Or.inl rfl, rfl⟩ | exact ⟨Or.inr rfl, rfl⟩
      go_wp2
      go_round
      case rel => exact ⟨k + 1, t + 8 + bs.size, by omega, by omega, by go_num, by go_num⟩
      case measure => simp [intOf]; omega
    · clear h0
      go_wp2
      go_ret
      first | exact ⟨_, rfl, rfl⟩ | exact ⟨Or.inl rfl, rfl⟩ | exact ⟨Or.inr rfl, rfl⟩

theorem open_srow {H : Type} {enc : TypeId × Value → H} {P : Program} {W : World} {t e : TypeId} (ht : P.underlying t = some (.slice e)) (he : P.underlying e = some .string) (hc : P.cellsOf e = 1)
    {a : Option Addr} {len cap : Nat} {d : DataW H} {p : List MemPlace} (h : DataW.Trod enc P W 0 (fun _ => true) true t (.slice a len cap) d p) : ∃ ls, RowS W a len cap ls := by
  obtain ⟨fuel, hf⟩ := h
  rcases open_strings ht he hc hf with ⟨hcs, _⟩ | ⟨x, l, c, ss, hcs, _, hl, hm, hz, _, hcell, hsz⟩
  · simp [Value.cells] at hcs
    obtain ⟨rfl, rfl, rfl⟩ := hcs
    exact ⟨[], rfl, fun _ => ⟨rfl, rfl⟩, by unfold maxLen; omega, Nat.le_refl _, Or.inl rfl, by simp⟩
  · simp [Value.cells] at hcs
    obtain ⟨rfl, rfl, rfl⟩ := hcs
    have hz' : ss.length = cap := by simpa using hz
    refine ⟨(ss.take len).map (fun s => s.data.toList), by simp; omega, by simp, hm, hl, ?_, ?_⟩
    · by_cases h0 : len = 0
      · exact Or.inl h0
      · right
        obtain ⟨b, off, sp⟩ := x
        have hsp : sp = none := by simpa [Addr.add] using World.cell?_spot (hcell 0 (by omega))
        subst hsp
        refine ⟨b, off, rfl, ?_, fun i hi => ?_⟩
        · have := hcell 0 (by omega)
          exact World.block_lt_of_cell? W _ this
        · have h1 := hcell i (by omega)
          rw [Go.WideShapes.add_plain] at h1
          rw [h1]
          have hi2 : i < ss.length := by omega
          simp [List.getD, hi, hi2]
    · intro z hz2
      obtain ⟨s, hs, rfl⟩ := List.mem_map.1 hz2
      have := hsz s (List.mem_of_mem_take hs)
      rw [Array.length_toList]
      exact this
end Go.Proofs.Qxb6600089aMods
