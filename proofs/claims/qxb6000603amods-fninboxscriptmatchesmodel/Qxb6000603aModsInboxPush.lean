/-
  What writes the inbox: ZZPushFrame, ZZAddGiven, giving, by contracts.
-/
import Derived.Test.Qxb6000603aModsInbox
namespace Go.Proofs.Qxb6000603aMods
open Go.RowKit

theorem info51 : (Trym.prog.info? 51).map (fun i => (i.zero, i.size, i.bytes)) = some (some (.agg #[.int .u64 0, .int .u64 0]), 2, 16) := by kernel_rfl

theorem new_cells (w : World) (cs : Array Value) (t : TypeId) : ∀ j u, cs.toList[j]? = some u → (w.alloc (.cells cs t)).cell? ((⟨w.heap.size, 0, none⟩ : Addr).add j) = some u := fun j u hu => by
  rw [Addr.add_lit, Nat.zero_add, cell_of_row _ _ _ _ _ _ (heap_alloc_new w (.cells cs t))]
  simpa using hu

/-- w' is w but for the blocks ib and r, and for new ones. -/
structure Touch (w w' : World) (ib : Nat) (r : Option Nat) : Prop where
  os : w'.os = w.os
  tape : w'.tape = w.tape
  output : w'.output = w.output
  size : w.heap.size ≤ w'.heap.size
  block : ∀ k, k < w.heap.size → k ≠ ib → some k ≠ r → w'.heap[k]? = w.heap[k]?

theorem Touch.refl (w : World) (ib : Nat) (r : Option Nat) : Touch w w ib r := ⟨rfl, rfl, rfl, Nat.le_refl _, fun _ _ _ _ => rfl⟩
theorem Touch.grown {w w' : World} {ib : Nat} {r row : Option Nat} (h : w.grownBy w' row) (hr : ∀ k, k < w.heap.size → row = some k → k = ib ∨ r = some k) : Touch w w' ib r :=
  ⟨h.os, h.tape, h.output, h.size, fun k hk h1 h2 => h.block k hk (fun e => by rcases hr k hk e.symm with h' | h'; exact h1 h'; exact h2 h'.symm)⟩
theorem Touch.trans {w w' w'' : World} {ib : Nat} {r : Option Nat} (h : Touch w w' ib r) (h' : Touch w' w'' ib r) : Touch w w'' ib r :=
  ⟨h'.os.trans h.os, h'.tape.trans h.tape, h'.output.trans h.output, Nat.le_trans h.size h'.size, fun k hk h1 h2 => (h'.block k (Nat.lt_of_lt_of_le hk h.size) h1 h2).trans (h.block k hk h1 h2)⟩
theorem Touch.below {w w' : World} {ib B : Nat} {r : Option Nat} (h : Touch w w' ib r) (h1 : B ≤ ib) (h2 : ib < w.heap.size) (h3 : ∀ b, r = some b → B ≤ b) : Below B w w' :=
  ⟨h.os, h.tape, h.output, h.size, fun k hk => h.block k (by omega) (by omega) (fun e => by have := h3 k e.symm; omega)⟩

/-- The inbox behind a call that wrote it. -/
def Upd (w w' : World) (B ib : Nat) (r : Option Nat) (g h : Int) (fs : List (Int × Int)) : Prop :=
  ∃ a' cap', Inbox w' B ib g h a' cap' fs ∧ (bk a' = none ∨ bk a' = r ∨ ∃ q, bk a' = some q ∧ w.heap.size ≤ q) ∧ Touch w w' ib r

section
variable {w : World} {B ib : Nat} {g h : Int} {a : Option Addr} {cap : Nat} {fs : List (Int × Int)}

/-- A new frame behind the others: what an append into new memory, and the store of what it gave, leave. -/
theorem Inbox.pushed {w0 w1 : World} {a' : Option Addr} {cap' : Nat} (I : Inbox w B ib g h a cap fs) (hw0 : w.grownBy w0 none) (p : Int × Int) (G : Grew w0 w1 B 2 a a' (fs.length + 1) cap' (flat fs ++ flat [p])) :
    Upd w (w1.setCell ⟨ib, 3, none⟩ (.slice a' (fs.length + 1) cap')) B ib (bk a) g h (fs ++ [p]) := by
  have hl0 : ib < w0.heap.size := Nat.lt_of_lt_of_le I.box.lt hw0.size
  have hib : ∀ k, bk a = some k → k ≠ ib := I.ne
  have hb1 : Box w1 B ib g h (.slice a fs.length cap) := (I.box.kept hw0 (by simp)).kept G.grown (fun e => hib ib e.symm rfl)
  have hne : ∀ b, bk a' = some b → b ≠ ib := by
    intro b hb
    rcases G.lies with e | ⟨q, e, hq⟩
    · exact hib b (e ▸ hb)
    · rw [e] at hb; cases hb; omega
  have hs := grownBy_setCell w1 ⟨ib, 3, none⟩ (.slice a' (fs.length + 1) cap')
  refine ⟨a', cap', ⟨?_, ?_, hne⟩, ?_, ?_⟩
  · have := hb1.set3 (.slice a' (fs.length + 1) cap')
    simpa using this
  · have := G.sl.kept hs (by
      cases e : bk a' with
      | none => exact Or.inl rfl
      | some b => exact Or.inr (by simpa using hne b e))
    rw [flat_append]
    simpa using this
  · rcases G.lies with e | ⟨q, e, hq⟩
    · exact Or.inr (Or.inl e)
    · exact Or.inr (Or.inr ⟨q, e, Nat.le_trans hw0.size hq⟩)
  · refine ((Touch.grown hw0 (fun k _ e => by cases e)).trans (Touch.grown G.grown (fun k _ e => Or.inr e))).trans (Touch.grown hs (fun k _ e => Or.inl (by simpa using e.symm)))

set_option maxHeartbeats 400000 in
theorem pushFrame_any (I : Inbox w B ib g h a cap fs) (l s : Int) (hn : fs.length < 1048576) :
    Calls Trym.prog 18 #[.pointer (some ⟨ib, 0, none⟩), .int .u64 l, .int .u64 s] w fun e w' => e = .returned (.tuple #[]) ∧ Upd w w' B ib (bk a) g h (fs ++ [(l, s)]) := by
  have c3 := I.box.c3
  have f3 := I.box.fz 3
  have HI : Hid (Inbox w B ib g h a cap fs) := I
  clear I
  have hlt := HI.out.box.lt
  have hB : B ≤ w.heap.size := Nat.le_trans HI.out.box.lo (Nat.le_of_lt hlt)
  obtain ⟨i0, hi, hz0, hz1, hz2⟩ := info_parts info51
  have HP := fun (w1 : World) (a' : Option Addr) (cap' : Nat) (G : Grew (w.alloc (.cells #[.int .u64 l, .int .u64 s] 51)) w1 B 2 a a' (fs.length + 1) cap' (flat fs ++ flat [(l, s)])) => HI.out.pushed (World.grownBy_alloc w _ none) (l, s) G
  have HPP : Hid _ := HP
  clear HP
  go_enter Trym.func18, Trym.ntmps18
  go_wp2_with (first | (at_builtin; refine wpList_append_sl rfl _ _ 47 rfl 51 i0 _ 16 Trym.underlying47 hi hz0 hz1 hz2 rfl (by decide) rfl (HI.out.sl.alloc _) (by simp; omega) ⟨w.heap.size, 0, none⟩ 1 [.int .u64 l, .int .u64 s] rfl rfl ?c1 ?c2 ?c3 ?c4 ?_))
  case c1 => exact new_cells w #[.int .u64 l, .int .u64 s] 51
  case c2 => intro u hu; simp at hu; rcases hu with rfl | rfl <;> rfl
  case c3 => unfold maxLen; omega
  case c4 => omega
  intro a' cap' w1 G
  have hb1 : Box w1 B ib g h (.slice a fs.length cap) := (HI.out.box.kept (World.grownBy_alloc w _ none) (by simp)).kept G.grown (fun e => HI.out.ne ib e.symm rfl)
  have c3' := hb1.c3
  have f3' := hb1.fz 3
  have R := HPP.out w1 a' cap' G
  clear hb1 G c3 f3 HPP
  go_wp2
  go_end0
  exact ⟨rfl, R⟩

end

end Go.Proofs.Qxb6000603aMods
