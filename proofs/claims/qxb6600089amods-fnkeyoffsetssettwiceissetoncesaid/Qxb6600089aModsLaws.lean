/- The plain laws of keyOffsets: what set, and a script of sets, leave. No Go in sight. -/
import Derived.Test.Qxb6600089aModsReplay
namespace Go.Proofs.Qxb6600089aMods
set_option linter.unusedSimpArgs false

theorem mem_setK (ks : List (List UInt8)) (s k : List UInt8) : k ∈ setK ks s ↔ k = s ∨ k ∈ ks := by
  unfold setK
  by_cases e : s ∈ ks
  · simp only [e, if_true]
    constructor
    · exact Or.inr
    · rintro (rfl | h)
      · exact e
      · exact h
  · simp [e]

theorem place_setK {ks : List (List UInt8)} {k : List UInt8} (s : List UInt8) (h : k ∈ ks) : place (setK ks s) k = place ks k := by
  unfold setK
  by_cases e : s ∈ ks
  · simp [e]
  · have : k ≠ s := fun e2 => e (e2 ▸ h)
    simp [e, place, this]

theorem place_new {ks : List (List UInt8)} {s : List UInt8} (h : s ∉ ks) : place (setK ks s) s = ks.length := by
  simp [setK, h, place]

theorem place_ne : ∀ (ks : List (List UInt8)) (a b : List UInt8), a ∈ ks → b ∈ ks → a ≠ b → place ks a ≠ place ks b
  | [], _, _, h, _, _ => by simp at h
  | x :: ks, a, b, ha, hb, hn => by
    by_cases e1 : a = x
    · subst e1
      have hb' : b ∈ ks := by simpa [Ne.symm hn] using hb
      have := place_lt ks b hb'
      simp [place, Ne.symm hn]
      omega
    · by_cases e2 : b = x
      · subst e2
        have ha' : a ∈ ks := by simpa [e1] using ha
        have := place_lt ks a ha'
        simp [place, e1]
        omega
      · have := place_ne ks a b (by simpa [e1] using ha) (by simpa [e2] using hb) hn
        simpa [place, e1, e2] using this

/-- A key's offset. -/
def valAt (ks : List (List UInt8)) (os : List Int) (k : List UInt8) : Int := os.getD (place ks k) 0

theorem valAt_same {ks : List (List UInt8)} {os : List Int} (hl : os.length = ks.length) (s : List UInt8) (x : Int) : valAt (setK ks s) (setO ks os s x) s = x := by
  unfold valAt
  by_cases e : s ∈ ks
  · rw [place_setK s e]
    have := place_lt ks s e
    simp [setO, e, List.getD, show place ks s < os.length by omega]
  · rw [place_new e]
    simp [setO, e, List.getD, ← hl]

theorem valAt_other {ks : List (List UInt8)} {os : List Int} (hl : os.length = ks.length) {s k : List UInt8} (x : Int) (hk : k ∈ ks) (hn : k ≠ s) : valAt (setK ks s) (setO ks os s x) k = valAt ks os k := by
  unfold valAt
  rw [place_setK s hk]
  have hp := place_lt ks k hk
  by_cases e : s ∈ ks
  · have := place_ne ks s k e hk (Ne.symm hn)
    simp [setO, e, List.getD, List.getElem?_set_ne this]
  · simp [setO, e, List.getD, List.getElem?_append_left (show place ks k < os.length by omega)]

/-! ### twice is once -/
theorem setK_twice (ks : List (List UInt8)) (s : List UInt8) : setK (setK ks s) s = setK ks s := by
  have : s ∈ setK ks s := (mem_setK ks s s).2 (Or.inl rfl)
  rw [setK]
  simp [this]

theorem setO_twice {ks : List (List UInt8)} {os : List Int} (hl : os.length = ks.length) (s : List UInt8) (x y : Int) : setO (setK ks s) (setO ks os s x) s y = setO ks os s y := by
  have : s ∈ setK ks s := (mem_setK ks s s).2 (Or.inl rfl)
  rw [setO, if_pos this]
  by_cases e : s ∈ ks
  · rw [place_setK s e]
    simp [setO, e]
  · rw [place_new e]
    simp [setO, e, ← hl]

/-! ### two keys -/
theorem comm_length (ks : List (List UInt8)) {a b : List UInt8} (hn : a ≠ b) : (setK (setK ks a) b).length = (setK (setK ks b) a).length := by
  have hn' : b ≠ a := Ne.symm hn
  unfold setK
  by_cases ea : a ∈ ks <;> by_cases eb : b ∈ ks <;> simp [ea, eb, hn, hn']

theorem comm_mem (ks : List (List UInt8)) (a b k : List UInt8) : k ∈ setK (setK ks a) b ↔ k ∈ setK (setK ks b) a := by
  simp only [mem_setK]
  constructor
  · rintro (h | h | h)
    · exact Or.inr (Or.inl h)
    · exact Or.inl h
    · exact Or.inr (Or.inr h)
  · rintro (h | h | h)
    · exact Or.inr (Or.inl h)
    · exact Or.inl h
    · exact Or.inr (Or.inr h)

theorem two_vals {ks : List (List UInt8)} {os : List Int} (hl : os.length = ks.length) {a b : List UInt8} (x y : Int) (hn : a ≠ b) (k : List UInt8) (hk : k ∈ setK (setK ks a) b) :
    valAt (setK (setK ks a) b) (setO (setK ks a) (setO ks os a x) b y) k = if k = b then y else if k = a then x else valAt ks os k := by
  have hl2 := set_length hl a x
  by_cases eb : k = b
  · subst eb
    rw [valAt_same hl2]
    simp
  · have h1 : k ∈ setK ks a := by
      rcases (mem_setK _ _ _).1 hk with h | h
      · exact absurd h eb
      · exact h
    rw [valAt_other hl2 y h1 eb]
    by_cases ea : k = a
    · subst ea
      rw [valAt_same hl]
      simp [hn]
    · have h0 : k ∈ ks := by
        rcases (mem_setK _ _ _).1 h1 with h | h
        · exact absurd h ea
        · exact h
      rw [valAt_other hl x h0 ea]
      simp [ea, eb]

theorem comm_val {ks : List (List UInt8)} {os : List Int} (hl : os.length = ks.length) {a b : List UInt8} (x y : Int) (hn : a ≠ b) (k : List UInt8) (hk : k ∈ setK (setK ks a) b) :
    valAt (setK (setK ks a) b) (setO (setK ks a) (setO ks os a x) b y) k = valAt (setK (setK ks b) a) (setO (setK ks b) (setO ks os b y) a x) k := by
  rw [two_vals hl x y hn k hk, two_vals hl y x (Ne.symm hn) k ((comm_mem ks a b k).1 hk)]
  by_cases ea : k = a
  · subst ea
    simp [hn]
  · simp [ea]

/-! ### a script -/
theorem rep_length (ls : List (List UInt8)) (zs : List Int) : ∀ n, (repO ls zs n).length = (repK ls n).length
  | 0 => rfl
  | n + 1 => by
    simp only [repO, repK]
    exact set_length (rep_length ls zs n) _ _

theorem mem_rep (ls : List (List UInt8)) (k : List UInt8) : ∀ n, k ∈ repK ls n ↔ ∃ j, j < n ∧ ls.getD j [] = k
  | 0 => by simp [repK]
  | n + 1 => by
    simp only [repK]
    rw [mem_setK, mem_rep ls k n]
    constructor
    · rintro (h | ⟨j, hj, h⟩)
      · exact ⟨n, by omega, h.symm⟩
      · exact ⟨j, by omega, h⟩
    · rintro ⟨j, hj, h⟩
      by_cases e : j = n
      · subst e
        exact Or.inl h.symm
      · exact Or.inr ⟨j, by omega, h⟩

theorem place_rep (ls : List (List UInt8)) (k : List UInt8) (i : Nat) (hk : k ∈ repK ls i) : ∀ d, place (repK ls (i + d)) k = place (repK ls i) k
  | 0 => rfl
  | d + 1 => by
    have hm : k ∈ repK ls (i + d) := by
      obtain ⟨j, hj, h⟩ := (mem_rep ls k i).1 hk
      exact (mem_rep ls k _).2 ⟨j, by omega, h⟩
    show place (setK (repK ls (i + d)) _) k = _
    rw [place_setK _ hm, place_rep ls k i hk d]

/-- The first place, the last place at which s stands among the first n; -1: none. -/
def fstTo (ls : List (List UInt8)) (s : List UInt8) : Nat → Int
  | 0 => -1
  | j + 1 => if ls.getD j [] = s then (if fstTo ls s j < 0 then (j : Int) else fstTo ls s j) else fstTo ls s j
def lstTo (ls : List (List UInt8)) (s : List UInt8) : Nat → Int
  | 0 => -1
  | j + 1 => if ls.getD j [] = s then (j : Int) else lstTo ls s j

theorem fst_spec (ls : List (List UInt8)) (s : List UInt8) : ∀ n, (fstTo ls s n = -1 ∧ ∀ p, p < n → ls.getD p [] ≠ s) ∨ ∃ f : Nat, fstTo ls s n = f ∧ f < n ∧ ls.getD f [] = s ∧ ∀ p, p < f → ls.getD p [] ≠ s
  | 0 => Or.inl ⟨rfl, by omega⟩
  | n + 1 => by
    rcases fst_spec ls s n with ⟨h1, h2⟩ | ⟨f, h1, h2, h3, h4⟩
    · by_cases e : ls.getD n [] = s
      · right
        exact ⟨n, by rw [fstTo, if_pos e, h1]; simp, by omega, e, h2⟩
      · left
        refine ⟨by rw [fstTo, if_neg e, h1], fun p hp => ?_⟩
        by_cases ep : p = n
        · subst ep; exact e
        · exact h2 p (by omega)
    · right
      refine ⟨f, ?_, by omega, h3, h4⟩
      rw [fstTo, h1]
      have : ¬ ((f : Int) < 0) := by omega
      simp [this]

theorem lst_spec (ls : List (List UInt8)) (zs : List Int) (s : List UInt8) : ∀ n, s ∈ repK ls n → ∃ p : Nat, lstTo ls s n = p ∧ p < n ∧ valAt (repK ls n) (repO ls zs n) s = zs.getD p 0
  | 0, h => by simp [repK] at h
  | n + 1, h => by
    by_cases e : ls.getD n [] = s
    · refine ⟨n, by rw [lstTo, if_pos e], by omega, ?_⟩
      have := valAt_same (rep_length ls zs n) s (zs.getD n 0)
      simp only [repK, repO]
      rw [e]
      exact this
    · have hm : s ∈ repK ls n := by
        rcases (mem_setK _ _ _).1 h with h | h
        · exact absurd h.symm e
        · exact h
      obtain ⟨p, h1, h2, h3⟩ := lst_spec ls zs s n hm
      refine ⟨p, by rw [lstTo, if_neg e, h1], by omega, ?_⟩
      simp only [repK, repO]
      rw [valAt_other (rep_length ls zs n) _ hm (Ne.symm e), h3]

theorem rep_self {ls : List (List UInt8)} {i n : Nat} (hi : i < n) : ls.getD i [] ∈ repK ls n := (mem_rep ls _ n).2 ⟨i, hi, rfl⟩

/-- The key's first place is i itself: its slot is the next one. -/
theorem rank_new {ls : List (List UInt8)} {i n : Nat} (hi : i < n) (h : fstTo ls (ls.getD i []) n = i) :
    place (repK ls n) (ls.getD i []) = (repK ls i).length ∧ (repK ls (i + 1)).length = (repK ls i).length + 1 := by
  have hn : ls.getD i [] ∉ repK ls i := by
    intro hm
    obtain ⟨j, hj, e⟩ := (mem_rep ls _ i).1 hm
    rcases fst_spec ls (ls.getD i []) n with ⟨h1, _⟩ | ⟨f, h1, h2, h3, h4⟩
    · omega
    · obtain rfl : f = i := by omega
      exact h4 j hj e
  have hk : repK ls (i + 1) = setK (repK ls i) (ls.getD i []) := rfl
  have h1 := place_rep ls (ls.getD i []) (i + 1) (rep_self (by omega)) (n - (i + 1))
  rw [show i + 1 + (n - (i + 1)) = n by omega, hk, place_new hn] at h1
  refine ⟨h1, ?_⟩
  rw [hk, setK, if_neg hn]
  simp

/-- The key has stood at an earlier place f. -/
theorem rank_old {ls : List (List UInt8)} {i n : Nat} (hi : i < n) (h : fstTo ls (ls.getD i []) n ≠ i) :
    ∃ f : Nat, fstTo ls (ls.getD i []) n = f ∧ f < i ∧ ls.getD f [] = ls.getD i [] ∧ (repK ls (i + 1)).length = (repK ls i).length := by
  rcases fst_spec ls (ls.getD i []) n with ⟨_, h2⟩ | ⟨f, h1, h2, h3, h4⟩
  · exact absurd rfl (h2 i hi)
  · have hlt : f < i := by
      have hne : f ≠ i := fun e => h (e ▸ h1)
      by_cases hg : i < f
      · exact absurd rfl (h4 i hg)
      · omega
    refine ⟨f, h1, hlt, h3, ?_⟩
    have hm : ls.getD i [] ∈ repK ls i := (mem_rep ls _ i).2 ⟨f, hlt, h3⟩
    show (setK (repK ls i) (ls.getD i [])).length = _
    rw [setK, if_pos hm]
end Go.Proofs.Qxb6600089aMods
