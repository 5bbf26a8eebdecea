/-
  From what the row's form says of a slice argument to 'Row'.
-/
import Derived.Test.Qxb6000603aModsBase
import Derived.ProofKit
import Derived.SliceStrings
import Derived.Deep.Slices
namespace Go.Proofs.Qxb6000603aMods
open Go.ChangeShapes Go.WideShapes Go.RowKit

theorem own : ownKnob Trym.prog.godebug = none := by kernel_rfl
theorem laidOut : laidOutB Trym.prog = true := by kernel_rfl

theorem row_nil (t : TypeId) (B : Nat) (w : World) (ad : Nat → Addr) (f : Nat → Value) : Row t B w none 0 0 ad f :=
  ⟨Nat.zero_le _, fun k _ h => absurd h (Nat.not_lt_zero k), fun k h => absurd h (Nat.not_lt_zero k), fun k h => absurd h (Nat.not_lt_zero k)⟩

theorem row_some {t e : TypeId} (hu : Trym.prog.underlying t = some (.slice (Trym.prog.elem t))) (he : Trym.prog.elem t = e) (hs : ∀ W, (sizeOf e).run Trym.prog W = .ok 1 W)
    {w : World} {x : Addr} {len cap : Nat} {f : Nat → Value} (hl : len ≤ maxLen) (hc : ∀ k, k < len → w.cell? (x.add k) = some (f k)) : Row t w.heap.size w (some x) len cap (fun k => x.add k) f := by
  refine ⟨hl, fun k W hk => ?_, hc, fun k hk => block_lt_of_cell (hc k hk)⟩
  rw [run_indexAt_slice W t x len cap .i64 k hu, if_pos ⟨by omega, by omega⟩, he, hs]
  simp [Result.andThen]

theorem size9 (W : World) : (sizeOf 9).run Trym.prog W = .ok 1 W := by kernel_rfl
theorem size4 (W : World) : (sizeOf 4).run Trym.prog W = .ok 1 W := by kernel_rfl
theorem size32 (W : World) : (sizeOf 32).run Trym.prog W = .ok 1 W := by kernel_rfl
theorem size3 (W : World) : (sizeOf 3).run Trym.prog W = .ok 1 W := by kernel_rfl

section
variable {H : Type} {enc : TypeId × Value → H} {W : World} {a : Option Addr} {len cap : Nat} {d : DataW H} {p : List MemPlace} {base : Nat} {sp : Nat → Bool} {held : Bool}

theorem open22 (h : DataW.Trod enc Trym.prog W base sp held 22 (.slice a len cap) d p) :
    ∃ (ad : Nat → Addr) (ss : Nat → ByteArray), Row 22 W.heap.size W a len cap ad (fun k => .string (ss k)) ∧ ∀ k, k < len → (ss k).size ≤ maxLen := by
  obtain ⟨fuel, hf⟩ := h
  rcases open_strings Trym.underlying22 Trym.underlying9 (by kernel_rfl) hf with ⟨hcs, _⟩ | ⟨x, l, c, ss, hcs, _, hl, hm, hz, _, hcell, hws⟩
  · simp [Value.cells] at hcs
    obtain ⟨rfl, rfl, rfl⟩ := hcs
    exact ⟨fun _ => ⟨0, 0, none⟩, fun _ => ByteArray.empty, row_nil _ _ _ _ _, fun k hk => absurd hk (Nat.not_lt_zero k)⟩
  · simp [Value.cells] at hcs
    obtain ⟨rfl, rfl, rfl⟩ := hcs
    have hlen : len ≤ ss.length := by rw [hz]; split <;> omega
    refine ⟨_, fun k => ss.getD k ByteArray.empty, row_some (e := 9) (by kernel_rfl) (by kernel_rfl) size9 (Nat.le_trans hl hm) (fun k hk => hcell k (by omega)), fun k hk => ?_⟩
    have hk' : k < ss.length := by omega
    simp only [List.getD, List.getElem?_eq_getElem hk', Option.getD_some]
    exact hws _ (List.getElem_mem hk')

theorem open23 (h : DataW.Trod enc Trym.prog W base sp held 23 (.slice a len cap) d p) :
    ∃ (ad : Nat → Addr) (vs : Nat → Bool), Row 23 W.heap.size W a len cap ad (fun k => .bool (vs k)) := by
  obtain ⟨fuel, hf⟩ := h
  rcases Deep.open_slice1 Trym.underlying23 (by kernel_rfl) hf with ⟨hcs, _⟩ | ⟨x, l, c, m, n, V, D, Pl, hcs, _, hl, hm, hz, _, hcell⟩
  · simp [Value.cells] at hcs
    obtain ⟨rfl, rfl, rfl⟩ := hcs
    exact ⟨fun _ => ⟨0, 0, none⟩, fun _ => false, row_nil _ _ _ _ _⟩
  · simp [Value.cells] at hcs
    obtain ⟨rfl, rfl, rfl⟩ := hcs
    have hlen : len ≤ m := by rw [hz]; split <;> omega
    refine ⟨_, fun k => match V k with | .bool b => b | _ => false, row_some (e := 4) (by kernel_rfl) (by kernel_rfl) size4 (Nat.le_trans hl hm) (fun k hk => ?_)⟩
    obtain ⟨h1, h2⟩ := hcell k (by omega)
    obtain ⟨b, hb, _⟩ := DataW.trod_bool Trym.underlying4 h2
    simp only [List.cons.injEq, and_true] at hb
    rw [h1]
    simp only [hb]

/-- A slice of uint64. -/
theorem open33 (h : DataW.Trod enc Trym.prog W base sp held 33 (.slice a len cap) d p) :
    ∃ (ad : Nat → Addr) (zs : Nat → Int), Row 33 W.heap.size W a len cap ad (fun k => .int .u64 (zs k)) ∧ ∀ k, k < len → (Lit.int .u64 (zs k)).wf = true := by
  obtain ⟨fuel, hf⟩ := h
  rcases open_ints Trym.underlying33 Trym.underlying32 (by kernel_rfl) hf with ⟨hcs, _⟩ | ⟨x, l, c, zs, hcs, _, hl, hm, hz, _, hcell, hwz⟩
  · simp [Value.cells] at hcs
    obtain ⟨rfl, rfl, rfl⟩ := hcs
    exact ⟨fun _ => ⟨0, 0, none⟩, fun _ => 0, row_nil _ _ _ _ _, fun k hk => absurd hk (Nat.not_lt_zero k)⟩
  · simp [Value.cells] at hcs
    obtain ⟨rfl, rfl, rfl⟩ := hcs
    have hlen : len ≤ zs.length := by rw [hz]; split <;> omega
    refine ⟨_, fun k => zs.getD k 0, row_some (e := 32) (by kernel_rfl) (by kernel_rfl) size32 (Nat.le_trans hl hm) (fun k hk => hcell k (by omega)), fun k hk => ?_⟩
    have hk' : k < zs.length := by omega
    simp only [List.getD, List.getElem?_eq_getElem hk', Option.getD_some]
    exact hwz _ (List.getElem_mem hk')

/-- A slice of int. -/
theorem open43 (h : DataW.Trod enc Trym.prog W base sp held 43 (.slice a len cap) d p) :
    ∃ (ad : Nat → Addr) (zs : Nat → Int), Row 43 W.heap.size W a len cap ad (fun k => .int .i64 (zs k)) ∧ ∀ k, k < len → (Lit.int .i64 (zs k)).wf = true := by
  obtain ⟨fuel, hf⟩ := h
  rcases open_ints Trym.underlying43 Trym.underlying3 (by kernel_rfl) hf with ⟨hcs, _⟩ | ⟨x, l, c, zs, hcs, _, hl, hm, hz, _, hcell, hwz⟩
  · simp [Value.cells] at hcs
    obtain ⟨rfl, rfl, rfl⟩ := hcs
    exact ⟨fun _ => ⟨0, 0, none⟩, fun _ => 0, row_nil _ _ _ _ _, fun k hk => absurd hk (Nat.not_lt_zero k)⟩
  · simp [Value.cells] at hcs
    obtain ⟨rfl, rfl, rfl⟩ := hcs
    have hlen : len ≤ zs.length := by rw [hz]; split <;> omega
    refine ⟨_, fun k => zs.getD k 0, row_some (e := 3) (by kernel_rfl) (by kernel_rfl) size3 (Nat.le_trans hl hm) (fun k hk => hcell k (by omega)), fun k hk => ?_⟩
    have hk' : k < zs.length := by omega
    simp only [List.getD, List.getElem?_eq_getElem hk', Option.getD_some]
    exact hwz _ (List.getElem_mem hk')

end

end Go.Proofs.Qxb6000603aMods
