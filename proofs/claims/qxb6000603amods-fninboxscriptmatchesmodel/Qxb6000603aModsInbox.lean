/-
  The inbox of the call's own: what its cells hold; the small functions that build and read it, by contracts.
-/
import Derived.Test.Qxb6000603aModsSl
import Derived.BigQuiet
import Derived.Lib.SliceRun
namespace Go.Proofs.Qxb6000603aMods
open Go.RowKit

/-- Frames as cells. -/
def flat : List (Int × Int) → List Value
  | [] => []
  | p :: r => .int .u64 p.1 :: .int .u64 p.2 :: flat r

theorem flat_length : ∀ fs : List (Int × Int), (flat fs).length = fs.length * 2
  | [] => rfl
  | p :: r => by simp only [flat, List.length_cons, flat_length r]; omega

theorem flat_append : ∀ fs gs : List (Int × Int), flat (fs ++ gs) = flat fs ++ flat gs
  | [], gs => rfl
  | p :: r, gs => by simp only [List.cons_append, flat, flat_append r gs]

theorem flat_drop : ∀ (fs : List (Int × Int)) (k : Nat), (flat fs).drop (k * 2) = flat (fs.drop k)
  | [], k => by simp [flat]
  | p :: r, 0 => by simp
  | p :: r, k + 1 => by
    have e : (k + 1) * 2 = k * 2 + 2 := by omega
    rw [e]
    simp only [flat, List.drop_succ_cons]
    exact flat_drop r k

theorem flat_get : ∀ (fs : List (Int × Int)) (j : Nat) (p : Int × Int), fs[j]? = some p → (flat fs)[j * 2]? = some (.int .u64 p.1) ∧ (flat fs)[j * 2 + 1]? = some (.int .u64 p.2)
  | [], j, p, h => by simp at h
  | q :: r, 0, p, h => by simp at h; subst h; exact ⟨rfl, rfl⟩
  | q :: r, j + 1, p, h => by
    have e : (j + 1) * 2 = j * 2 + 2 := by omega
    have ih := flat_get r j p (by simpa using h)
    rw [e]
    exact ⟨ih.1, ih.2⟩

/-- The struct's own block: given, handled, unacked; not frozen. -/
structure Box (w : World) (B ib : Nat) (g h : Int) (v : Value) : Prop where
  lo : B ≤ ib
  lt : ib < w.heap.size
  c0 : w.cell? ⟨ib, 0, none⟩ = some (.int .u64 g)
  c2 : w.cell? ⟨ib, 2, none⟩ = some (.int .u64 h)
  c3 : w.cell? ⟨ib, 3, none⟩ = some v
  fz : ∀ j, w.frozen? ⟨ib, j, none⟩ = false

theorem free_row {w : World} {g : Nat} {cs : Array Value} {t : TypeId} (hh : w.heap[g]? = some (.cells cs t (0, 0))) (j : Nat) : w.frozen? ⟨g, j, none⟩ = false := by simp [World.frozen?, hh]

theorem grownBy_setCell (w : World) (p : Addr) (v : Value) : w.grownBy (w.setCell p v) (some p.block) :=
  ⟨rfl, rfl, rfl, by simp [World.setCell], fun k _ hne => Below.heap_setCell w p v k (fun e => hne (by rw [e]))⟩

section
variable {w : World} {B ib : Nat} {g h : Int} {v : Value}

theorem Box.kept {w' : World} {row : Option Nat} (I : Box w B ib g h v) (hg : w.grownBy w' row) (h1 : some ib ≠ row) : Box w' B ib g h v := by
  have hb : w'.heap[ib]? = w.heap[ib]? := hg.block ib I.lt h1
  exact ⟨I.lo, Nat.lt_of_lt_of_le I.lt hg.size, by rw [World.cell?_of_block (w := w) (a := ⟨ib, 0, none⟩) hb]; exact I.c0, by rw [World.cell?_of_block (w := w) (a := ⟨ib, 2, none⟩) hb]; exact I.c2,
    by rw [World.cell?_of_block (w := w) (a := ⟨ib, 3, none⟩) hb]; exact I.c3, fun j => by rw [World.frozen?_of_block (w := w) (a := ⟨ib, j, none⟩) hb]; exact I.fz j⟩

theorem off_ne {ib i j : Nat} (h : i ≠ j) : (⟨ib, i, none⟩ : Addr) ≠ ⟨ib, j, none⟩ := by intro e; simp only [Addr.mk.injEq, true_and, and_true] at e; exact h e

theorem Box.set3 (I : Box w B ib g h v) (u : Value) : Box (w.setCell ⟨ib, 3, none⟩ u) B ib g h u :=
  ⟨I.lo, Nat.lt_of_lt_of_le I.lt (grownBy_setCell w _ u).size, by rw [World.cell?_setCell_other w _ _ u (off_ne (by decide))]; exact I.c0, by rw [World.cell?_setCell_other w _ _ u (off_ne (by decide))]; exact I.c2,
    World.cell?_setCell_same w _ u I.c3, fun j => by rw [World.frozen?_setCell]; exact I.fz j⟩

theorem Box.set0 (I : Box w B ib g h v) (n : Int) : Box (w.setCell ⟨ib, 0, none⟩ (.int .u64 n)) B ib n h v :=
  ⟨I.lo, Nat.lt_of_lt_of_le I.lt (grownBy_setCell w _ _).size, World.cell?_setCell_same w _ _ I.c0, by rw [World.cell?_setCell_other w _ _ _ (off_ne (by decide))]; exact I.c2,
    by rw [World.cell?_setCell_other w _ _ _ (off_ne (by decide))]; exact I.c3, fun j => by rw [World.frozen?_setCell]; exact I.fz j⟩

theorem Box.set2 (I : Box w B ib g h v) (n : Int) : Box (w.setCell ⟨ib, 2, none⟩ (.int .u64 n)) B ib g n v :=
  ⟨I.lo, Nat.lt_of_lt_of_le I.lt (grownBy_setCell w _ _).size, by rw [World.cell?_setCell_other w _ _ _ (off_ne (by decide))]; exact I.c0, World.cell?_setCell_same w _ _ I.c2,
    by rw [World.cell?_setCell_other w _ _ _ (off_ne (by decide))]; exact I.c3, fun j => by rw [World.frozen?_setCell]; exact I.fz j⟩

end

structure Inbox (w : World) (B ib : Nat) (g h : Int) (a : Option Addr) (cap : Nat) (fs : List (Int × Int)) : Prop where
  box : Box w B ib g h (.slice a fs.length cap)
  sl : Sl w B 2 a fs.length cap (flat fs)
  ne : ∀ b, bk a = some b → b ≠ ib

section
variable {w : World} {B ib : Nat} {g h : Int} {a : Option Addr} {cap : Nat} {fs : List (Int × Int)}

/-- An element's two cells. -/
theorem Inbox.elem (I : Inbox w B ib g h a cap fs) {j : Nat} {p : Int × Int} (hj : fs[j]? = some p) : ∃ gb off, a = some ⟨gb, off, none⟩ ∧ w.cell? ⟨gb, off + j * 2, none⟩ = some (.int .u64 p.1) ∧ w.cell? ⟨gb, off + j * 2 + 1, none⟩ = some (.int .u64 p.2) := by
  obtain ⟨h1, h2⟩ := flat_get fs j p hj
  have hlt : j < fs.length := (List.getElem?_eq_some_iff.1 hj).1
  rcases I.sl.2 with ⟨_, h0, _⟩ | ⟨gb, off, rfl, _, _, _, _, h3, _⟩
  · omega
  · exact ⟨gb, off, rfl, h3 _ _ h1, by rw [Nat.add_assoc]; exact h3 _ _ h2⟩

/-- The inbox stays what it is where neither of its two blocks is written. -/
theorem Inbox.kept {w' : World} {row : Option Nat} (I : Inbox w B ib g h a cap fs) (hg : w.grownBy w' row) (h1 : some ib ≠ row) (h2 : bk a = none ∨ bk a ≠ row) : Inbox w' B ib g h a cap fs :=
  ⟨I.box.kept hg h1, I.sl.kept hg h2, I.ne⟩

set_option maxHeartbeats 400000 in
theorem frames_any (I : Inbox w B ib g h a cap fs) : Calls Trym.prog 20 #[.pointer (some ⟨ib, 0, none⟩)] w fun e w' => e = .returned (.int .i64 (fs.length : Nat)) ∧ w = w' := by
  have c3 := I.box.c3
  clear I
  go_enter Trym.func20, Trym.ntmps20
  go_wp2
  go_ret
  exact ⟨rfl, rfl⟩

set_option maxHeartbeats 400000 in
theorem given_any (I : Inbox w B ib g h a cap fs) : Calls Trym.prog 24 #[.pointer (some ⟨ib, 0, none⟩)] w fun e w' => e = .returned (.int .u64 g) ∧ w = w' := by
  have c0 := I.box.c0
  clear I
  go_enter Trym.func24, Trym.ntmps24
  go_wp2
  go_ret
  exact ⟨rfl, rfl⟩

set_option maxHeartbeats 400000 in
theorem handled_any (I : Inbox w B ib g h a cap fs) : Calls Trym.prog 29 #[.pointer (some ⟨ib, 0, none⟩)] w fun e w' => e = .returned (.int .u64 h) ∧ w = w' := by
  have c2 := I.box.c2
  clear I
  go_enter Trym.func29, Trym.ntmps29
  go_wp2
  go_ret
  exact ⟨rfl, rfl⟩

set_option maxHeartbeats 400000 in
theorem framesNil_any (I : Inbox w B ib g h a cap fs) : Calls Trym.prog 23 #[.pointer (some ⟨ib, 0, none⟩)] w fun e w' => e = .returned (.bool a.isNone) ∧ w = w' := by
  have c3 := I.box.c3
  have hq : ∀ (w : World) (a : Option Addr) (n c : Nat), (binOp .eql 47 (.slice a n c) (.slice none 0 0)).run Trym.prog w = .ok (.bool a.isNone) w := fun w a n c => Lib.run_eql_slice_nil w _ _ a n c 0 0 Trym.underlying47
  clear I
  go_enter Trym.func23, Trym.ntmps23
  go_wp2
  go_ret
  exact ⟨rfl, rfl⟩

set_option maxHeartbeats 400000 in
theorem frameLast_any (I : Inbox w B ib g h a cap fs) {j : Nat} {p : Int × Int} (hj : fs[j]? = some p) : Calls Trym.prog 21 #[.pointer (some ⟨ib, 0, none⟩), .int .i64 j] w fun e w' => e = .returned (.int .u64 p.1) ∧ w = w' := by
  have c3 := I.box.c3
  have hlt : j < fs.length := (List.getElem?_eq_some_iff.1 hj).1
  obtain ⟨gb, off, rfl, e1, _⟩ := I.elem hj
  generalize fs.length = n at c3 hlt
  clear I hj
  go_enter Trym.func21, Trym.ntmps21
  go_wp2
  go_ret
  exact ⟨rfl, rfl⟩

set_option maxHeartbeats 400000 in
theorem frameSeq_any (I : Inbox w B ib g h a cap fs) {j : Nat} {p : Int × Int} (hj : fs[j]? = some p) : Calls Trym.prog 22 #[.pointer (some ⟨ib, 0, none⟩), .int .i64 j] w fun e w' => e = .returned (.int .u64 p.2) ∧ w = w' := by
  have c3 := I.box.c3
  have hlt : j < fs.length := (List.getElem?_eq_some_iff.1 hj).1
  obtain ⟨gb, off, rfl, _, e1⟩ := I.elem hj
  generalize fs.length = n at c3 hlt
  clear I hj
  go_enter Trym.func22, Trym.ntmps22
  go_wp2
  go_ret
  exact ⟨rfl, rfl⟩

end

/-- ZZNewInbox -/
theorem newInbox_any (g h : Int) (w : World) (B : Nat) (hB : B ≤ w.heap.size) :
    Calls Trym.prog 17 #[.int .u64 g, .int .u64 h] w fun e w' => e = .returned (.pointer (some ⟨w.heap.size, 0, none⟩)) ∧ Inbox w' B w.heap.size g h none 0 [] ∧ Below w.heap.size w w' := by
  go_enter Trym.func17, Trym.ntmps17
  go_wp2
  go_ret
  refine ⟨rfl, ?_, (Below.refl _ _).alloc (Nat.le_refl _) _⟩
  have hh := heap_alloc_new w (.cells #[.int .u64 g, .bool false, .int .u64 h, .slice none 0 0, .int .u64 0] 49)
  refine ⟨⟨hB, by simp, ?_, ?_, ?_, free_row hh⟩, Sl.nil _ _ _, fun b hb => by cases hb⟩
  · rw [cell_of_row _ _ _ _ _ _ hh]; rfl
  · rw [cell_of_row _ _ _ _ _ _ hh]; rfl
  · rw [cell_of_row _ _ _ _ _ _ hh]; rfl

end Go.Proofs.Qxb6000603aMods
