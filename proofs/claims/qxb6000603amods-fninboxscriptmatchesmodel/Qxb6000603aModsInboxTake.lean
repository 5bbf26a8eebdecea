/-
  take, ZZTake: the frames whose events have all been taken are let go.
-/
import Derived.Test.Qxb6000603aModsInboxPush
namespace Go.Proofs.Qxb6000603aMods
open Go.RowKit

/-- w' is w behind some draws. -/
structure Drawn (w w' : World) : Prop where
  heap : w'.heap = w.heap
  os : w'.os = w.os
  tape : w'.tape = w.tape
  output : w'.output = w.output

theorem Drawn.refl (w : World) : Drawn w w := ⟨rfl, rfl, rfl, rfl⟩
theorem Drawn.drewN {w w' : World} (h : Drawn w w') (n : Nat) : Drawn w (w'.drewN n) := ⟨h.heap, h.os, h.tape, h.output⟩
theorem Drawn.cell {w w' : World} (h : Drawn w w') (x : Addr) : w'.cell? x = w.cell? x := by simp [World.cell?, h.heap]
theorem Drawn.frozen {w w' : World} (h : Drawn w w') (x : Addr) : w'.frozen? x = w.frozen? x := by simp [World.frozen?, h.heap]
theorem Drawn.grown {w w' : World} (h : Drawn w w') (r : Option Nat) : w.grownBy w' r := ⟨h.os, h.tape, h.output, by rw [h.heap]; exact Nat.le_refl _, fun k _ _ => by rw [h.heap]⟩

/-- Is the frame let go? -/
def goes (u g : Int) (p : Int × Int) : Bool := decide (p.1 + u < g)

theorem takeWhile_get {α : Type} (f : α → Bool) : ∀ (l : List α) (k : Nat), k < (l.takeWhile f).length → ∃ x, l[k]? = some x ∧ f x = true
  | [], k, h => by simp at h
  | y :: r, k, h => by
    by_cases hy : f y = true
    · rw [List.takeWhile_cons_of_pos hy] at h
      cases k with
      | zero => exact ⟨y, rfl, hy⟩
      | succ k => exact takeWhile_get f r k (by simpa using h)
    · rw [List.takeWhile_cons_of_neg hy] at h
      simp at h

theorem takeWhile_stop {α : Type} (f : α → Bool) : ∀ (l : List α), (l.takeWhile f).length < l.length → ∃ x, l[(l.takeWhile f).length]? = some x ∧ f x = false
  | [], h => by simp at h
  | y :: r, h => by
    by_cases hy : f y = true
    · rw [List.takeWhile_cons_of_pos hy] at h ⊢
      exact takeWhile_stop f r (by simpa using h)
    · rw [List.takeWhile_cons_of_neg hy]
      exact ⟨y, rfl, by simpa using hy⟩

theorem drop_takeWhile {α : Type} (f : α → Bool) : ∀ (l : List α), l.drop (l.takeWhile f).length = l.dropWhile f
  | [] => rfl
  | y :: r => by
    by_cases hy : f y = true
    · rw [List.takeWhile_cons_of_pos hy, List.dropWhile_cons_of_pos hy]
      exact drop_takeWhile f r
    · rw [List.takeWhile_cons_of_neg hy, List.dropWhile_cons_of_neg hy]
      rfl

/-- The inbox behind take: where nothing is left, the slice is nil. -/
def Took (w w' : World) (B ib : Nat) (r : Option Nat) (g h : Int) (fs : List (Int × Int)) : Prop :=
  ∃ a' cap', Inbox w' B ib g h a' cap' fs ∧ (bk a' = none ∨ bk a' = r) ∧ Touch w w' ib r ∧ a'.isNone = fs.isEmpty

section
variable {w : World} {B ib : Nat} {g h : Int} {a : Option Addr} {cap : Nat} {fs : List (Int × Int)}

theorem touch_set (w : World) (ib : Nat) (r : Option Nat) (j : Nat) (v : Value) : Touch w (w.setCell ⟨ib, j, none⟩ v) ib r :=
  Touch.grown (grownBy_setCell w ⟨ib, j, none⟩ v) (fun k _ e => Or.inl (by simpa using e.symm))

theorem Inbox.emptied {W : World} (I : Inbox w B ib g h a cap fs) (hW : Drawn w W) (v : Value) :
    Took w ((W.setCell ⟨ib, 3, none⟩ v).setCell ⟨ib, 3, none⟩ (.slice none 0 0)) B ib (bk a) g h [] :=
  ⟨none, 0, ⟨((I.box.kept (hW.grown none) (by simp)).set3 v).set3 (.slice none 0 0), Sl.nil _ _ _, fun b hb => by cases hb⟩, Or.inl rfl,
    ((Touch.grown (hW.grown none) (fun k _ e => by cases e)).trans (touch_set W ib _ 3 v)).trans (touch_set _ ib _ 3 _), rfl⟩

theorem Inbox.cut {W : World} (I : Inbox w B ib g h a cap fs) (hW : Drawn w W) {k : Nat} (hk : k < fs.length) :
    cap ≠ k ∧ Took w (W.setCell ⟨ib, 3, none⟩ (.slice (a.map (fun x => x.add (k * 2))) (fs.length - k) (cap - k))) B ib (bk a) g h (fs.drop k) := by
  have hck : cap ≠ k := by
    rcases I.sl.2 with ⟨_, h0, _⟩ | ⟨_, _, _, _, _, h0, _⟩ <;> omega
  refine ⟨hck, a.map (fun x => x.add (k * 2)), cap - k, ⟨?_, ?_, ?_⟩, Or.inr ?_, (Touch.grown (hW.grown none) (fun k _ e => by cases e)).trans (touch_set W ib _ 3 _), ?_⟩
  · have := (I.box.kept (hW.grown none) (by simp)).set3 (.slice (a.map (fun x => x.add (k * 2))) (fs.length - k) (cap - k))
    rw [List.length_drop]
    exact this
  · have hd := I.sl.drop (Nat.le_of_lt hk)
    rw [if_neg hck, flat_drop] at hd
    rw [List.length_drop]
    refine (hd.kept (hW.grown none) (by cases e : bk (Option.map (fun x => x.add (k * 2)) a) <;> simp)).kept (grownBy_setCell W ⟨ib, 3, none⟩ _) ?_
    cases e : bk (Option.map (fun x => x.add (k * 2)) a) with
    | none => exact Or.inl rfl
    | some b =>
      right
      have e2 : bk a = some b := by rw [← e]; have := bk_drop a (cap = k) (k * 2); rw [if_neg hck] at this; exact this.symm
      simpa using I.ne b e2
  · intro b hb
    refine I.ne b ?_
    have := bk_drop a (cap = k) (k * 2)
    rw [if_neg hck] at this
    rw [← this]
    exact hb
  · have := bk_drop a (cap = k) (k * 2)
    rw [if_neg hck] at this
    exact this
  · rcases I.sl.2 with ⟨_, h0, _⟩ | ⟨gb, off, rfl, _⟩
    · omega
    · have : (fs.drop k).isEmpty = false := by
        cases e : fs.drop k with
        | nil => rw [List.drop_eq_nil_iff] at e; omega
        | cons y r => rfl
      rw [this]
      rfl

set_option maxRecDepth 100000 in
set_option maxHeartbeats 1000000 in
theorem take_any (I : Inbox w B ib g h a cap fs) (u : Int) (hu : 0 ≤ u) (hu2 : u ≤ 9223372036854775807) (hb : ∀ p ∈ fs, 0 ≤ p.1 ∧ p.1 + u ≤ 18446744073709551615) (hn : fs.length < 1048576) :
    Calls Trym.prog 31 #[.pointer (some ⟨ib, 0, none⟩), .int .i64 u] w fun e w' => e = .returned (.tuple #[]) ∧ Took w w' B ib (bk a) g h (fs.dropWhile (goes u g)) := by
  obtain ⟨cnt, hcnt⟩ : ∃ cnt, cnt = (fs.takeWhile (goes u g)).length := ⟨_, rfl⟩
  have hcl : cnt ≤ fs.length := by rw [hcnt]; exact (List.takeWhile_prefix _).length_le
  have HI : Hid (Inbox w B ib g h a cap fs) := I
  have HB : Hid (∀ p ∈ fs, 0 ≤ p.1 ∧ p.1 + u ≤ 18446744073709551615) := hb
  have HC : Hid (cnt = (fs.takeWhile (goes u g)).length) := hcnt
  clear I hb hcnt
  obtain ⟨n, hnn⟩ : ∃ n, n = fs.length := ⟨_, rfl⟩
  rw [← hnn] at hn hcl
  have HNN : Hid (n = fs.length) := hnn
  clear hnn
  go_enter Trym.func31, Trym.ntmps31
  go_wp2
  go_loopw [4] (fun i wr => ∃ k : Nat, k ≤ cnt ∧ i = .int .i64 k ∧ Drawn w wr) (fun i _ => cnt - (intOf i).toNat)
  case atStart => exact ⟨0, Nat.zero_le _, rfl, Drawn.refl w⟩
  case round =>
    obtain ⟨k, hk, rfl, hq⟩ := hrel
    have c0 : wr.cell? ⟨ib, 0, none⟩ = some (.int .u64 g) := by rw [hq.cell]; exact HI.out.box.c0
    have c3 : wr.cell? ⟨ib, 3, none⟩ = some (.slice a n cap) := by rw [hq.cell, HNN.out]; exact HI.out.box.c3
    have f3 : wr.frozen? ⟨ib, 3, none⟩ = false := by rw [hq.frozen]; exact HI.out.box.fz 3
    have HQ : Hid (Drawn w wr) := hq
    clear hq
    by_cases hkc : k < cnt
    · obtain ⟨p, hp, hgo⟩ := takeWhile_get (goes u g) fs k (by rw [← HC.out]; exact hkc)
      have hpb := HB.out p (List.mem_of_getElem? hp)
      obtain ⟨gb, off, rfl, e1, _⟩ := HI.out.elem hp
      rw [← HQ.out.cell] at e1
      obtain ⟨pl, ps⟩ := p
      simp only at e1 hpb
      have ht : pl + u < g := by simpa [goes] using hgo
      obtain ⟨hp0, hp1⟩ := hpb
      clear hgo hp
      have hlt : (k : Int) < (n : Int) := by omega
      go_wp2
      go_quiet (fail)
      go_wp2
      go_roundw
      case rel => exact ⟨k + 1, by omega, by go_num, HQ.out.drewN _⟩
      case measure => simp [intOf]; omega
    · have : k = cnt := by omega
      subst this
      by_cases hkn : k < n
      · obtain ⟨p, hp, hgo⟩ := takeWhile_stop (goes u g) fs (by rw [← HC.out, ← HNN.out]; exact hkn)
        rw [← HC.out] at hp
        have hpb := HB.out p (List.mem_of_getElem? hp)
        have HF := fun (W : World) (hW : Drawn w W) => HI.out.cut hW (k := k) (by rw [← HNN.out]; exact hkn)
        have hck : ¬ cap = k := (HF w (Drawn.refl w)).1
        rw [HC.out, drop_takeWhile, ← HC.out, ← HNN.out] at HF
        obtain ⟨gb, off, rfl, e1, _⟩ := HI.out.elem hp
        simp only [Option.map_some, Addr.add_lit] at HF
        have HFF : Hid _ := HF
        clear HF
        rw [← HQ.out.cell] at e1
        obtain ⟨pl, ps⟩ := p
        simp only at e1 hpb
        have ht : g ≤ pl + u := by simpa [goes] using hgo
        obtain ⟨hp0, hp1⟩ := hpb
        clear hgo hp
        have hlt : (k : Int) < (n : Int) := by omega
        go_wp2
        go_quiet (fail)
        go_wp2
        go_end0
        exact ⟨rfl, (HFF.out _ (HQ.out.drewN _)).2⟩
      · have hd : decide ((k : Int) < (n : Int)) = false := by simpa using by omega
        have e0 : fs.dropWhile (goes u g) = [] := by rw [← drop_takeWhile, ← HC.out, List.drop_eq_nil_iff, ← HNN.out]; omega
        have E0 : Hid (fs.dropWhile (goes u g) = []) := e0
        clear e0
        go_wp2
        go_quiet (fail)
        go_wp2
        all_goals
          go_end0
          rw [E0.out]
          exact ⟨rfl, HI.out.emptied (HQ.out.drewN _) _⟩

set_option maxHeartbeats 400000 in
theorem ZZTake_any (I : Inbox w B ib g h a cap fs) (u : Int) (hu : 0 ≤ u) (hu2 : u ≤ 9223372036854775807) (hb : ∀ p ∈ fs, 0 ≤ p.1 ∧ p.1 + u ≤ 18446744073709551615) (hn : fs.length < 1048576) :
    Calls Trym.prog 19 #[.pointer (some ⟨ib, 0, none⟩), .int .i64 u] w fun e w' => e = .returned (.tuple #[]) ∧ Took w w' B ib (bk a) g h (fs.dropWhile (goes u g)) := by
  have HB : Hid (∀ p ∈ fs, 0 ≤ p.1 ∧ p.1 + u ≤ 18446744073709551615) := hb
  clear hb
  go_enter Trym.func19, Trym.ntmps19
  go_wp2_with fail
  refine (take_any I u hu hu2 HB.out hn).mono ?_
  rintro e w' ⟨rfl, hT⟩
  go_wp2
  go_end0
  exact ⟨rfl, hT⟩

end

end Go.Proofs.Qxb6000603aMods
