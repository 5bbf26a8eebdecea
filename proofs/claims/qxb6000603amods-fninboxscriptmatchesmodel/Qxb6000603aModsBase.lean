/-
  What all walks of this seat share: a slice argument told by its index function; min2.
-/
import Derived.Test.Qxb6000603aModsRows
import Derived.WalkKit
import Derived.WalkSpells
import Derived.WalkLawsBesides
namespace Go.Proofs.Qxb6000603aMods
open Go.RowKit

/-- A slice of type t (one cell an element) among the arguments: element k lies at 'ad k' and holds 'f k'; all of it below block B. -/
structure Row (t : TypeId) (B : Nat) (w : World) (a : Option Addr) (len cap : Nat) (ad : Nat → Addr) (f : Nat → Value) : Prop where
  len_le : len ≤ maxLen
  idx : ∀ (k : Nat) (W : World), k < len → (Instr.indexAt t (.slice a len cap) (.int .i64 k)).run Trym.prog W = .ok (.pointer (some (ad k))) W
  cell : ∀ k, k < len → w.cell? (ad k) = some (f k)
  low : ∀ k, k < len → (ad k).block < B

theorem Row.below {t B w a len cap ad f w'} (h : Row t B w a len cap ad f) (hb : Below B w w') : Row t B w' a len cap ad f :=
  ⟨h.len_le, h.idx, fun k hk => (hb.cell (h.low k hk)).trans (h.cell k hk), h.low⟩

theorem Row.mono {t B B' w a len cap ad f} (h : Row t B w a len cap ad f) (hB : B ≤ B') : Row t B' w a len cap ad f :=
  ⟨h.len_le, h.idx, h.cell, fun k hk => Nat.lt_of_lt_of_le (h.low k hk) hB⟩

/-- It returns a bool, whichever. -/
def RetBool (e : Ending) : Prop := ∃ b, e = .returned (.bool b)
theorem RetBool.mk (b : Bool) : RetBool (.returned (.bool b)) := ⟨b, rfl⟩
/-- It returns an int, whichever. -/
def RetInt (e : Ending) : Prop := ∃ n, e = .returned (.int .i64 n)
theorem RetInt.mk (n : Int) : RetInt (.returned (.int .i64 n)) := ⟨n, rfl⟩

set_option maxHeartbeats 400000 in
theorem min2_any (a b : Int) (w : World) :
    Calls Trym.prog 13 #[.int .i64 a, .int .i64 b] w fun e w' => e = .returned (.int .i64 (min a b)) ∧ w = w' := by
  by_cases h : a < b
  · have hm : min a b = a := by omega
    rw [hm]
    go_enter Trym.func13, Trym.ntmps13
    go_wp2
    go_ret
    exact ⟨rfl, rfl⟩
  · have hm : min a b = b := by omega
    rw [hm]
    go_enter Trym.func13, Trym.ntmps13
    go_wp2
    go_ret
    exact ⟨rfl, rfl⟩

end Go.Proofs.Qxb6000603aMods
