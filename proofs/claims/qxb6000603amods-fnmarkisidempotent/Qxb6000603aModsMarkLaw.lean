/-
  The plain laws on mark: no Go in sight.
-/
import Derived.Test.Qxb6000603aModsMarkMap
namespace Go.Proofs.Qxb6000603aMods
open Go.RowKit Go.Maps

/-- nil, or a map in which no key stands twice. -/
def Good (D : DataW Unit) : Prop := D = .nil ∨ Tidy D

theorem Mp.good {w : World} {B : Nat} {mv : Value} {n : Nat} {D : DataW Unit} (h : Mp w B mv n D) : Good D := by
  rcases h with ⟨_, h⟩ | ⟨b, _, _, hown⟩
  · exact Or.inl h
  · exact Or.inr (hown.tidy law)

theorem nilD_map {D : DataW Unit} (h : IsMap D) : nilD D = false := by obtain ⟨es, rfl⟩ := h; rfl

theorem put_name {D : DataW Unit} (h : Tidy D) (s : ByteArray) :
    nilD (D.put (key s) (.lit (.bool true))) = false ∧ hasAt (D.put (key s) (.lit (.bool true))) s = true ∧ bAt (D.put (key s) (.lit (.bool true))) s = true ∧
    Maps.size (D.put (key s) (.lit (.bool true))) = (if hasAt D s = true then Maps.size D else Maps.size D + 1) ∧ Good (D.put (key s) (.lit (.bool true))) := by
  refine ⟨nilD_map (h.isMap.put _ _), has_put_same h.isMap (key_isKey s) _, ?_, size_put h _, Or.inr (h.put (key_isKey s) _)⟩
  unfold bAt
  rw [atKey_put_same h.isMap (key_isKey s)]

theorem put_other {D : DataW Unit} {s t : ByteArray} (h : t ≠ s) (d : DataW Unit) : hasAt (D.put (key s) d) t = hasAt D t ∧ bAt (D.put (key s) d) t = bAt D t := by
  refine ⟨has_put_other (key_ne h) _, ?_⟩
  unfold bAt
  rw [atKey_put_other (key_ne h)]

theorem del_other {D : DataW Unit} {s t : ByteArray} (h : t ≠ s) : hasAt (D.del (key s)) t = hasAt D t ∧ bAt (D.del (key s)) t = bAt D t := by
  refine ⟨has_del_other (key_ne h), ?_⟩
  unfold bAt
  rw [atKey_del_other (key_ne h)]

theorem nil_empty (s : ByteArray) : hasAt .nil s = false ∧ bAt .nil s = false ∧ hasAt (.map []) s = false ∧ bAt (.map []) s = false := ⟨rfl, rfl, rfl, rfl⟩

theorem del_name {D : DataW Unit} (h : Good D) (s : ByteArray) :
    nilD (D.del (key s)) = nilD D ∧ hasAt (D.del (key s)) s = false ∧ bAt (D.del (key s)) s = false ∧ Maps.size (D.del (key s)) + (if hasAt D s = true then 1 else 0) = Maps.size D ∧ Good (D.del (key s)) := by
  have hb : bAt (D.del (key s)) s = false := by unfold bAt; rw [atKey_del_same]
  rcases h with rfl | h
  · exact ⟨rfl, rfl, rfl, rfl, Or.inl rfl⟩
  · exact ⟨by rw [nilD_map h.isMap, nilD_map (h.isMap.del _)], has_del_same, hb, size_del h, Or.inr (h.del _)⟩

/-- mark(set, s, true). -/
theorem mark_true {D : DataW Unit} (h : Good D) (s : ByteArray) :
    nilD (markD D s true) = false ∧ hasAt (markD D s true) s = true ∧ bAt (markD D s true) s = true ∧ Maps.size (markD D s true) = (if hasAt D s = true then Maps.size D else Maps.size D + 1) ∧ Good (markD D s true) ∧
    (∀ t, t ≠ s → hasAt (markD D s true) t = hasAt D t ∧ bAt (markD D s true) t = bAt D t) := by
  rcases h with rfl | h
  · obtain ⟨h1, h2, h3, h4, h5⟩ := put_name (tidy_empty (H := Unit)) s
    exact ⟨h1, h2, h3, h4, h5, fun t ht => put_other (D := .map []) ht _⟩
  · obtain ⟨h1, h2, h3, h4, h5⟩ := put_name h s
    have e : markD D s true = D.put (key s) (.lit (.bool true)) := by unfold markD; rw [if_pos rfl, if_neg (by rw [nilD_map h.isMap]; simp)]
    rw [e]
    exact ⟨h1, h2, h3, h4, h5, fun t ht => put_other ht _⟩

/-- mark(set, s, false). -/
theorem mark_false {D : DataW Unit} (h : Good D) (s : ByteArray) :
    nilD (markD D s false) = nilD D ∧ hasAt (markD D s false) s = false ∧ bAt (markD D s false) s = false ∧ Maps.size (markD D s false) + (if hasAt D s = true then 1 else 0) = Maps.size D ∧ Good (markD D s false) ∧
    (∀ t, t ≠ s → hasAt (markD D s false) t = hasAt D t ∧ bAt (markD D s false) t = bAt D t) := by
  obtain ⟨h1, h2, h3, h4, h5⟩ := del_name h s
  exact ⟨h1, h2, h3, h4, h5, fun t ht => del_other ht⟩

/-- mark(set, s, inn), both ways in one form: what the laws' walks take. -/
theorem mark_facts {D : DataW Unit} (h : Good D) (s : ByteArray) (inn : Bool) :
    nilD (markD D s inn) = (nilD D && !inn) ∧ hasAt (markD D s inn) s = inn ∧ bAt (markD D s inn) s = inn ∧
    ((Maps.size (markD D s inn) : Nat) : Int) = (Maps.size D : Nat) + (if inn = true then (if hasAt D s = true then 0 else 1) else (if hasAt D s = true then -1 else 0)) ∧ Good (markD D s inn) ∧
    (∀ t, t ≠ s → hasAt (markD D s inn) t = hasAt D t ∧ bAt (markD D s inn) t = bAt D t) := by
  cases inn
  · obtain ⟨h1, h2, h3, h4, h5, h6⟩ := mark_false h s
    refine ⟨by simp [h1], h2, h3, ?_, h5, h6⟩
    by_cases hh : hasAt D s = true
    · simp only [hh, if_true] at h4 ⊢
      simp
      omega
    · simp only [hh] at h4 ⊢
      simp at h4 ⊢
      omega
  · obtain ⟨h1, h2, h3, h4, h5, h6⟩ := mark_true h s
    refine ⟨by simp [h1], h2, h3, ?_, h5, h6⟩
    rw [h4]
    by_cases hh : hasAt D s = true
    · simp [hh]
    · simp [hh]

theorem nil_has {D : DataW Unit} (h : nilD D = true) (s : ByteArray) : hasAt D s = false := by
  cases D <;> first | rfl | cases h

end Go.Proofs.Qxb6000603aMods
