/- The plain side of keyOffsets: slots in the order in which keys first appeared; the map from a key to its slot. -/
import Derived.Maps.OwnSet
namespace Go.Proofs.Qxb6600089aMods
open Go.Maps

/-- A key as the map's reader has it. -/
def klit (s : List UInt8) : Lit := .string s
theorem klit_inj {a b : List UInt8} (h : klit a = klit b) : a = b := by
  unfold klit at h
  injection h
theorem klit_ne {a b : List UInt8} (h : a ≠ b) : klit a ≠ klit b := fun e => h (klit_inj e)

def i64d (n : Int) : DataW Unit := .lit (.int .i64 n)

/-- The index over the keys that have come, the newest FIRST in the list: each at the place at which it came. -/
def Dk : List (List UInt8) → DataW Unit
  | [] => .map []
  | k :: ks => (Dk ks).put (klit k) (i64d ks.length)

theorem klit_key (s : List UInt8) : WideAt.IsKeyLit (klit s) := by
  unfold klit
  trivial

theorem Dk_tidy : ∀ ks : List (List UInt8), Tidy (Dk ks)
  | [] => tidy_empty
  | k :: ks => (Dk_tidy ks).put (klit_key k) _

theorem has_Dk : ∀ (ks : List (List UInt8)) (k : List UInt8), Maps.has (Dk ks) (klit k) = decide (k ∈ ks)
  | [], k => by simp [Dk, Maps.has]
  | x :: ks, k => by
    by_cases e : k = x
    · subst e
      rw [Dk, has_put_same (Dk_tidy ks).isMap (klit_key k)]
      simp
    · rw [Dk, has_put_other (klit_ne e), has_Dk ks k]
      simp [e]

/-- The place of a key, the newest first in the list. -/
def place : List (List UInt8) → List UInt8 → Nat
  | [], _ => 0
  | x :: ks, k => if k = x then ks.length else place ks k

theorem at_Dk : ∀ (ks : List (List UInt8)) (k : List UInt8), (Dk ks).atKey (klit k) (i64d 0) = i64d (place ks k)
  | [], k => by simp [Dk, place, DataW.atKey]
  | x :: ks, k => by
    by_cases e : k = x
    · subst e
      rw [Dk, atKey_put_same (Dk_tidy ks).isMap (klit_key k)]
      simp [place]
    · rw [Dk, atKey_put_other (klit_ne e), at_Dk ks k]
      simp [place, e]

theorem size_Dk : ∀ ks : List (List UInt8), ks.Nodup → Maps.size (Dk ks) = ks.length
  | [], _ => rfl
  | x :: ks, h => by
    rw [Dk, size_put (Dk_tidy ks), has_Dk ks x, size_Dk ks (List.nodup_cons.1 h).2]
    simp [(List.nodup_cons.1 h).1]

theorem place_lt : ∀ (ks : List (List UInt8)) (k : List UInt8), k ∈ ks → place ks k < ks.length
  | [], k, h => by simp at h
  | x :: ks, k, h => by
    by_cases e : k = x
    · subst e; simp [place]
    · have := place_lt ks k (by simpa [e] using h)
      simp [place, e]; omega

/-! ### the state: the keys (the newest first) and the offsets (in slot order) -/
/-- set(k, x). -/
def setK (ks : List (List UInt8)) (k : List UInt8) : List (List UInt8) := if k ∈ ks then ks else k :: ks
def setO (ks : List (List UInt8)) (os : List Int) (k : List UInt8) (x : Int) : List Int := if k ∈ ks then os.set (place ks k) x else os ++ [x]

theorem setK_nodup {ks : List (List UInt8)} (h : ks.Nodup) (k : List UInt8) : (setK ks k).Nodup := by
  unfold setK
  by_cases e : k ∈ ks
  · simp [e, h]
  · simp [e, h]
theorem set_length {ks : List (List UInt8)} {os : List Int} (h : os.length = ks.length) (k : List UInt8) (x : Int) : (setO ks os k x).length = (setK ks k).length := by
  unfold setO setK
  by_cases e : k ∈ ks <;> simp [e, h]
theorem setK_length_le (ks : List (List UInt8)) (k : List UInt8) : (setK ks k).length ≤ ks.length + 1 := by
  unfold setK
  by_cases e : k ∈ ks <;> simp [e]
theorem length_le_setK (ks : List (List UInt8)) (k : List UInt8) : ks.length ≤ (setK ks k).length := by
  unfold setK
  by_cases e : k ∈ ks <;> simp [e]
end Go.Proofs.Qxb6600089aMods
