/-
  The plain laws on frames in rising order: what take lets go is a head of the list, told by a threshold.
-/
import Derived.Test.Qxb6000603aModsInboxTake
namespace Go.Proofs.Qxb6000603aMods
open Go.RowKit

/-- The first k frames. -/
def frs (ls qs : Nat → Int) (k : Nat) : List (Int × Int) := (List.range k).map (fun j => (ls j, qs j))

theorem frs_zero (ls qs : Nat → Int) : frs ls qs 0 = [] := rfl
theorem frs_succ (ls qs : Nat → Int) (k : Nat) : frs ls qs (k + 1) = frs ls qs k ++ [(ls k, qs k)] := by simp [frs, List.range_succ]
theorem frs_length (ls qs : Nat → Int) (k : Nat) : (frs ls qs k).length = k := by simp [frs]
theorem frs_get (ls qs : Nat → Int) {k j : Nat} (h : j < k) : (frs ls qs k)[j]? = some (ls j, qs j) := by simp [frs, h]
theorem frs_mem {ls qs : Nat → Int} {k : Nat} {p : Int × Int} (h : p ∈ frs ls qs k) : ∃ j, j < k ∧ p = (ls j, qs j) := by
  obtain ⟨j, hj, rfl⟩ := List.mem_map.1 h
  exact ⟨j, List.mem_range.1 hj, rfl⟩

/-- Well formed: each below g, strictly rising. -/
def Rising (ls : Nat → Int) (g : Int) (m : Nat) : Prop := ∀ j, j < m → ls j < g ∧ (0 < j → ls (j - 1) < ls j)

theorem Rising.le {ls : Nat → Int} {g : Int} {m : Nat} (h : Rising ls g m) : ∀ {i j : Nat}, i ≤ j → j < m → ls i ≤ ls j := by
  intro i j hij hj
  induction j with
  | zero => have : i = 0 := by omega
            subst this; exact Int.le_refl _
  | succ j ih =>
    rcases Nat.lt_or_ge i (j + 1) with hlt | hge
    · have h1 := ih (by omega) (by omega)
      have h2 := (h (j + 1) hj).2 (by omega)
      simp only [Nat.add_sub_cancel] at h2
      omega
    · have : i = j + 1 := by omega
      subst this
      exact Int.le_refl _

/-- How many frames are let go. -/
def cut (ls qs : Nat → Int) (u g : Int) (m : Nat) : Nat := ((frs ls qs m).takeWhile (goes u g)).length

theorem cut_le (ls qs : Nat → Int) (u g : Int) (m : Nat) : cut ls qs u g m ≤ m := by
  have := (List.takeWhile_prefix (goes u g) (l := frs ls qs m)).length_le
  rw [frs_length] at this
  exact this

theorem cut_below {ls qs : Nat → Int} {u g : Int} {m j : Nat} (h : j < cut ls qs u g m) : ls j + u < g := by
  obtain ⟨p, hp, hg⟩ := takeWhile_get (goes u g) (frs ls qs m) j h
  rw [frs_get ls qs (Nat.lt_of_lt_of_le h (cut_le ls qs u g m))] at hp
  cases hp
  simpa [goes] using hg

theorem cut_above {ls qs : Nat → Int} {u g g' : Int} {m j : Nat} (hr : Rising ls g' m) (h : cut ls qs u g m ≤ j) (hj : j < m) : g ≤ ls j + u := by
  have hlt : ((frs ls qs m).takeWhile (goes u g)).length < (frs ls qs m).length := by rw [frs_length]; exact Nat.lt_of_le_of_lt h hj
  obtain ⟨p, hp, hg⟩ := takeWhile_stop (goes u g) (frs ls qs m) hlt
  have hc : cut ls qs u g m < m := Nat.lt_of_le_of_lt h hj
  rw [show ((frs ls qs m).takeWhile (goes u g)).length = cut ls qs u g m from rfl, frs_get ls qs hc] at hp
  cases hp
  have h1 : g ≤ ls (cut ls qs u g m) + u := by simpa [goes] using hg
  have h2 := hr.le h hj
  omega

theorem left_length (ls qs : Nat → Int) (u g : Int) (m : Nat) : ((frs ls qs m).dropWhile (goes u g)).length = m - cut ls qs u g m := by
  rw [← drop_takeWhile, List.length_drop, frs_length]
  rfl

theorem left_get (ls qs : Nat → Int) (u g : Int) {m j : Nat} (h : cut ls qs u g m ≤ j) (hj : j < m) : ((frs ls qs m).dropWhile (goes u g))[j - cut ls qs u g m]? = some (ls j, qs j) := by
  rw [← drop_takeWhile, List.getElem?_drop, show ((frs ls qs m).takeWhile (goes u g)).length = cut ls qs u g m from rfl]
  rw [show cut ls qs u g m + (j - cut ls qs u g m) = j from by omega]
  exact frs_get ls qs hj

end Go.Proofs.Qxb6000603aMods
