/-
  Small things for the walks that mark a set twice.
-/
import Derived.Test.Qxb6000603aModsMarkLaw
namespace Go.Proofs.Qxb6000603aMods
open Go.RowKit Go.Maps

theorem hide {p : Prop} (h : p) : Hid p := h
theorem unhide {p : Prop} (h : Hid p) : p := h

theorem apart {w1 w2 : World} {mvB mvS : Value} {n n' B C : Nat} {D D' : DataW Unit} (hB : Mp w1 B mvB n D) (hS : Mp w2 C mvS n' D') (h : w1.heap.size ≤ C) : mblock mvB = none ∨ mblock mvB ≠ mblock mvS := by
  cases e : mblock mvB with
  | none => exact Or.inl rfl
  | some b =>
    right
    intro e2
    have x1 := hB.blt b e
    have x2 := hS.blt b e2.symm
    omega

end Go.Proofs.Qxb6000603aMods
