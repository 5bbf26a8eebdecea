/-
  giving, ZZGiving, ZZAddGiven by contracts.
-/
import Derived.Test.Qxb6000603aModsInboxTake
import Derived.Deep.RegionLaw
namespace Go.Proofs.Qxb6000603aMods
open Go.RowKit

theorem wrap_u64_in {x : Int} (h0 : 0 ≤ x) (h1 : x ≤ 9223372036854775807) : IntKind.u64.wrap x = x := by
  simp only [IntKind.wrap, IntKind.signed, IntKind.bits]
  simp
  omega

theorem grownBy_alloc_drew (w : World) (o : Obj) : w.grownBy (w.alloc o).drew none :=
  have k := World.grownBy_alloc w o none
  ⟨k.os, k.tape, k.output, k.size, k.block⟩

/-- The last handled frame behind giving. -/
def hnd (h s : Int) : Int := if s = 0 then h else s
/-- The frames behind giving. -/
def gvn (g : Int) (fs : List (Int × Int)) (s n : Int) : List (Int × Int) := if s ≠ 0 ∧ 0 < n then fs ++ [(g + n - 1, s)] else fs

section
variable {w : World} {B ib : Nat} {g h : Int} {a : Option Addr} {cap : Nat} {fs : List (Int × Int)}

theorem Inbox.upd_refl (I : Inbox w B ib g h a cap fs) : Upd w w B ib (bk a) g h fs := ⟨a, cap, I, Or.inr (Or.inl rfl), Touch.refl _ _ _⟩

theorem Inbox.handled (I : Inbox w B ib g h a cap fs) (s : Int) : Inbox (w.setCell ⟨ib, 2, none⟩ (.int .u64 s)) B ib g s a cap fs :=
  ⟨I.box.set2 s, I.sl.kept (grownBy_setCell w ⟨ib, 2, none⟩ _) (by
    cases e : bk a with
    | none => exact Or.inl rfl
    | some b => exact Or.inr (by simpa using I.ne b e)), I.ne⟩

theorem Inbox.given (I : Inbox w B ib g h a cap fs) (n : Int) : Inbox (w.setCell ⟨ib, 0, none⟩ (.int .u64 n)) B ib n h a cap fs :=
  ⟨I.box.set0 n, I.sl.kept (grownBy_setCell w ⟨ib, 0, none⟩ _) (by
    cases e : bk a with
    | none => exact Or.inl rfl
    | some b => exact Or.inr (by simpa using I.ne b e)), I.ne⟩

theorem Upd.first {w1 w' : World} {r : Option Nat} (hT : Touch w w1 ib r) (hU : Upd w1 w' B ib r g h fs) : Upd w w' B ib r g h fs := by
  obtain ⟨a', cap', I, hl, hT'⟩ := hU
  refine ⟨a', cap', I, ?_, hT.trans hT'⟩
  rcases hl with e | e | ⟨q, e, hq⟩
  · exact Or.inl e
  · exact Or.inr (Or.inl e)
  · exact Or.inr (Or.inr ⟨q, e, Nat.le_trans hT.size hq⟩)

set_option maxHeartbeats 400000 in
theorem addGiven_any (I : Inbox w B ib g h a cap fs) (n : Int) (hg : 0 ≤ g) (hn : 0 ≤ n) (hs : g + n ≤ 9223372036854775807) :
    Calls Trym.prog 28 #[.pointer (some ⟨ib, 0, none⟩), .int .u64 n] w fun e w' => e = .returned (.tuple #[]) ∧ Upd w w' B ib (bk a) (g + n) h fs := by
  have c0 := I.box.c0
  have f0 := I.box.fz 0
  have HU : Hid (Upd w (w.setCell ⟨ib, 0, none⟩ (.int .u64 (g + n))) B ib (bk a) (g + n) h fs) := ⟨a, cap, I.given _, Or.inr (Or.inl rfl), touch_set w ib _ 0 _⟩
  clear I
  go_enter Trym.func28, Trym.ntmps28
  go_wp2
  go_end0
  exact ⟨rfl, HU.out⟩

set_option maxRecDepth 100000 in
set_option maxHeartbeats 1000000 in
theorem giving_any (I : Inbox w B ib g h a cap fs) (s n : Int) (hg : 0 ≤ g) (hs : g + n ≤ 9223372036854775807) (hl : fs.length < 1048576) :
    Calls Trym.prog 32 #[.pointer (some ⟨ib, 0, none⟩), .int .u64 s, .int .i64 n] w fun e w' => e = .returned (.tuple #[]) ∧ Upd w w' B ib (bk a) g (hnd h s) (gvn g fs s n) := by
  by_cases hz : s = 0
  · subst hz
    have HU : Hid (Upd w w B ib (bk a) g (hnd h 0) (gvn g fs 0 n)) := I.upd_refl
    clear I
    go_enter Trym.func32, Trym.ntmps32
    go_wp2
    refine bodyPost_ret (results_none (by kernel_rfl) _ _ _) rfl ?_
    exact ⟨rfl, HU.out⟩
  have hzb : (s == 0) = false := by simpa using hz
  have eh : hnd h s = s := by simp [hnd, hz]
  rw [eh]
  have c2 := I.box.c2
  have f2 := I.box.fz 2
  have I1 := I.handled s
  have T1 : Touch w (w.setCell ⟨ib, 2, none⟩ (.int .u64 s)) ib (bk a) := touch_set w ib _ 2 _
  by_cases hp : 0 < n
  · have eg : gvn g fs s n = fs ++ [(g + n - 1, s)] := by simp [gvn, hz, hp]
    rw [eg]
    clear eg eh hz I
    obtain ⟨i0, hi, hz0, hz1, hz2⟩ := info_parts info51
    go_enter Trym.func32, Trym.ntmps32
    go_wp2
    generalize w.setCell ⟨ib, 2, none⟩ (.int .u64 s) = W1 at I1 T1 ⊢
    have c0 := I1.box.c0
    have c3 := I1.box.c3
    have f3 := I1.box.fz 3
    clear c2 f2
    have e1 : IntKind.u64.wrap n = n := wrap_u64_in (by omega) (by omega)
    have e2 : IntKind.u64.wrap (g + n) = g + n := wrap_u64_in (by omega) (by omega)
    have e3 : IntKind.u64.wrap (g + n - 1) = g + n - 1 := wrap_u64_in (by omega) (by omega)
    have hlt := I1.box.lt
    have hB : B ≤ W1.heap.size := Nat.le_trans I1.box.lo (Nat.le_of_lt hlt)
    have hw0 : W1.grownBy (W1.alloc (.cells #[.int .u64 (g + n - 1), .int .u64 s] 51)).drew none := grownBy_alloc_drew W1 _
    have HSL := I1.sl.kept hw0 (by cases e : bk a <;> simp)
    have HNC : ∀ j u, [Value.int .u64 (g + n - 1), .int .u64 s][j]? = some u → ((W1.alloc (.cells #[.int .u64 (g + n - 1), .int .u64 s] 51)).drew).cell? ((⟨W1.heap.size, 0, none⟩ : Addr).add j) = some u := new_cells W1 #[.int .u64 (g + n - 1), .int .u64 s] 51
    have HBX : Hid (∀ a' cap' w1, Grew (W1.alloc (.cells #[.int .u64 (g + n - 1), .int .u64 s] 51)).drew w1 B 2 a a' (fs.length + 1) cap' (flat fs ++ flat [(g + n - 1, s)]) → Box w1 B ib g s (.slice a fs.length cap)) :=
      fun a' cap' w1 G => (I1.box.kept hw0 (by simp)).kept G.grown (fun e => I1.ne ib e.symm rfl)
    have HUP : Hid (∀ a' cap' w1, Grew (W1.alloc (.cells #[.int .u64 (g + n - 1), .int .u64 s] 51)).drew w1 B 2 a a' (fs.length + 1) cap' (flat fs ++ flat [(g + n - 1, s)]) →
        Upd w (w1.setCell ⟨ib, 3, none⟩ (.slice a' (fs.length + 1) cap')) B ib (bk a) g s (fs ++ [(g + n - 1, s)])) :=
      fun a' cap' w1 G => Upd.first T1 (I1.pushed hw0 (g + n - 1, s) G)
    clear I1 T1 hw0
    have HHS : Hid (Sl (W1.alloc (.cells #[.int .u64 (g + n - 1), .int .u64 s] 51)).drew B 2 a fs.length cap (flat fs)) := HSL
    have HHN : Hid (∀ j u, [Value.int .u64 (g + n - 1), .int .u64 s][j]? = some u → ((W1.alloc (.cells #[.int .u64 (g + n - 1), .int .u64 s] 51)).drew).cell? ((⟨W1.heap.size, 0, none⟩ : Addr).add j) = some u) := HNC
    clear HSL HNC
    go_region_law (refine step_append_sl rfl (.tmp 18) (.tmp 29) 47 rfl 51 i0 _ 16 Trym.underlying47 hi hz0 hz1 hz2 rfl (by decide) rfl HHS.out (by simp; omega) ⟨W1.heap.size, 0, none⟩ 1 [.int .u64 (g + n - 1), .int .u64 s] rfl rfl HHN.out (by intro u hu; simp at hu; rcases hu with rfl | rfl <;> rfl) (by unfold maxLen; omega) (by omega) ?_; intro a' cap' w1 G; have c3' := (HBX.out a' cap' w1 G).c3; have f3' := (HBX.out a' cap' w1 G).fz 3; have R := HUP.out a' cap' w1 G; clear G)
    all_goals
      go_end0
      exact ⟨rfl, by assumption⟩
  · have eg : gvn g fs s n = fs := by simp [gvn, hp]
    rw [eg]
    clear eg eh hz
    have HU : Hid (Upd w (w.setCell ⟨ib, 2, none⟩ (.int .u64 s)) B ib (bk a) g s fs) := Upd.first T1 I1.upd_refl
    clear I I1 T1
    go_enter Trym.func32, Trym.ntmps32
    go_wp2
    go_end0
    exact ⟨rfl, HU.out⟩

set_option maxHeartbeats 400000 in
theorem ZZGiving_any (I : Inbox w B ib g h a cap fs) (s n : Int) (hg : 0 ≤ g) (hs : g + n ≤ 9223372036854775807) (hl : fs.length < 1048576) :
    Calls Trym.prog 27 #[.pointer (some ⟨ib, 0, none⟩), .int .u64 s, .int .i64 n] w fun e w' => e = .returned (.tuple #[]) ∧ Upd w w' B ib (bk a) g (hnd h s) (gvn g fs s n) := by
  go_enter Trym.func27, Trym.ntmps27
  go_wp2_with fail
  refine (giving_any I s n hg hs hl).mono ?_
  rintro e w' ⟨rfl, hU⟩
  go_wp2
  go_end0
  exact ⟨rfl, hU⟩

end

end Go.Proofs.Qxb6000603aMods
