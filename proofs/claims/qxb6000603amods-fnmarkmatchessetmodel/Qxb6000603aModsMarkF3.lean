/-
  FnMarkMatchesSetModel: the walk.
-/
import Derived.Test.Qxb6000603aModsMarkBytes
import Derived.Test.Qxb6000603aModsMarkLaw
namespace Go.Proofs.Qxb6000603aMods
open Go.RowKit Go.Maps

set_option maxRecDepth 100000 in
set_option maxHeartbeats 2000000 in
theorem f3_any (a0 : Option Addr) (l0 c0 : Nat) (ad0 : Nat → Addr) (ss : Nat → ByteArray) (a1 : Option Addr) (l1 c1 : Nat) (ad1 : Nat → Addr) (vs : Nat → Bool) (nilSet : Bool) (name : ByteArray) (inn : Bool) (w : World)
    (hr0 : Row 22 w.heap.size w a0 l0 c0 ad0 (fun k => .string (ss k))) (hr1 : Row 23 w.heap.size w a1 l1 c1 ad1 (fun k => .bool (vs k))) (hss : ∀ k, k < l0 → (ss k).size ≤ maxLen) (hn : name.size ≤ maxLen) :
    Calls Trym.prog 3 #[.slice a0 l0 c0, .slice a1 l1 c1, .bool nilSet, .string name, .bool inn] w fun e w' => e = .returned (.bool true) ∧ Below w.heap.size w w' := by
  have HR0 : Hid (Row 22 w.heap.size w a0 l0 c0 ad0 (fun k => .string (ss k))) := hr0
  have HR1 : Hid (Row 23 w.heap.size w a1 l1 c1 ad1 (fun k => .bool (vs k))) := hr1
  have HSS : Hid (∀ k, k < l0 → (ss k).size ≤ maxLen) := hss
  have hl0 := hr0.len_le
  have hl1 := hr1.len_le
  have HN : Hid (name.size ≤ maxLen) := hn
  clear hr0 hr1 hss
  unfold maxLen at hl0 hl1 hn
  go_enter Trym.func3, Trym.ntmps3
  go_wp2_with fail
  refine (bytes9_any a0 l0 c0 ad0 ss w.heap.size a1 l1 c1 nilSet name inn w HR0.out HR1.out.len_le HN.out).mono ?_
  rintro e w' ⟨⟨b, rfl⟩, rfl⟩
  cases b with
  | false =>
    go_wp2
    go_ret
    exact ⟨rfl, Below.refl _ _⟩
  | true =>
    by_cases q0 : (65536 : Int) < l0
    · go_wp2
      go_ret
      exact ⟨rfl, Below.refl _ _⟩
    by_cases q1 : (65536 : Int) < l1
    · go_wp2
      go_ret
      exact ⟨rfl, Below.refl _ _⟩
    by_cases q2 : (1048576 : Int) < name.size
    · go_wp2
      go_ret
      exact ⟨rfl, Below.refl _ _⟩
    go_wp2_with fail
    refine (markBytes_any a0 l0 c0 ad0 ss w.heap.size a1 l1 c1 name w HR0.out (by omega) (by omega) (by omega)).mono ?_
    rintro e w' ⟨⟨t, rfl⟩, rfl⟩
    by_cases q3 : (1048576 : Int) < t
    · go_wp2
      go_ret
      exact ⟨rfl, Below.refl _ _⟩
    go_wp2_with fail
    refine (buildSet_any a0 l0 c0 ad0 ss a1 l1 c1 ad1 vs nilSet w HR0.out HR1.out HSS.out (by omega)).mono ?_
    rintro e w1 ⟨⟨mv1, rfl, hM1⟩, hb1⟩
    go_wp2_with fail
    refine (buildSet_any a0 l0 c0 ad0 ss a1 l1 c1 ad1 vs nilSet w1 ((HR0.out.below hb1).mono hb1.size) ((HR1.out.below hb1).mono hb1.size) HSS.out (by omega)).mono ?_
    rintro e w2 ⟨⟨mv2, rfl, hM2⟩, hb2⟩
    generalize built ss vs nilSet (min l0 l1) = D at hM1 hM2
    have iN1 := hM1.isNil
    have eG1 := hM1.eqg
    have L2 := hM2.look HN.out
    go_wp2_with fail
    refine (ZZMark_any mv1 name inn w2 w.heap.size 65536 D (hM1.below hb2) (Nat.le_trans hb1.size hb2.size) (by unfold maxLen; omega) HN.out).mono ?_
    rintro e w3 ⟨mv3, rfl, hM3, hsame, hg3⟩
    have hM1' := (hM1.below hb2)
    have hne : mblock mv2 = none ∨ mblock mv2 ≠ mblock mv1 := by
      cases e : mblock mv2 with
      | none => exact Or.inl rfl
      | some b2 =>
        right
        intro e2
        have x1 := hM1.blt b2 e2.symm
        have x2 := hM2.blt b2 e
        omega
    have hM2' := hM2.kept hg3 hne
    have HB : Hid (Below w.heap.size w w3) := (hb1.trans (hb2.mono hb1.size)).grown hg3 (Nat.le_trans hb1.size hb2.size) (fun k hk => (hM1.blt k hk).1)
    have hG := hM1.good
    clear hM1 hM2 hb1 hb2 hg3 hM1' hne L2
    have hsz := hM2'.size_le
    have N2 := hM2'.len
    have eG3 := hM3.eqg
    have iN3 := hM3.isNil
    have L3 := hM3.look HN.out
    have N3 := hM3.len
    obtain ⟨m, hm⟩ : ∃ m, m = min l0 l1 := ⟨_, rfl⟩
    have HEM : Hid ((min (l0 : Int) (l1 : Int)) = (m : Int)) := show _ = _ by omega
    have hm0 : m ≤ l0 := by omega
    clear hm
    have HL2 : Hid (∀ s : ByteArray, s.size ≤ maxLen → (Instr.lookup 26 mv2 (.string s) true).run Trym.prog w3 = .ok (.tuple #[.bool (bAt D s), .bool (hasAt D s)]) w3) := fun s hs => hM2'.look hs
    obtain ⟨f1, f2, f3, f4, _, f6⟩ := mark_facts hG name inn
    have HL3 : Hid (∀ s : ByteArray, s ≠ name → s.size ≤ maxLen → (Instr.lookup 26 mv3 (.string s) true).run Trym.prog w3 = .ok (.tuple #[.bool (bAt D s), .bool (hasAt D s)]) w3) := by
      intro s hne hs
      have := hM3.look hs
      rw [(f6 s hne).1, (f6 s hne).2] at this
      exact this
    have HN1 : Hid (nilD D = false → ∀ ty, (Builtin.len_ #[26] ty #[mv1]).run Trym.prog w3 = .ok (.int .i64 (Maps.size (markD D name inn))) w3) := by
      intro hnl
      rw [← hsame hnl]
      exact N3
    have hnh := fun h => nil_has (D := D) h name
    rw [f1] at iN3
    rw [f2, f3] at L3
    clear hM2' hM3 hsame f1 f2 f3 f6 hG
    generalize Maps.size (markD D name inn) = nR at N3 HN1 f4
    generalize Maps.size D = nD at N2 f4 hsz
    cases hhad : hasAt D name <;> cases hnl : nilD D
    all_goals first
      | (exfalso; have := hnh hnl; rw [hhad] at this; cases this; done)
      | skip
    all_goals
      rw [hnl] at iN3
      rw [hhad] at f4
      have N1 := HN1.out
      rw [hnl] at N1
      first
        | replace N1 := N1 rfl
        | clear N1
      clear HN1 hnh
    all_goals cases inn
    all_goals
      simp only [Bool.not_true, Bool.not_false, Bool.and_true, Bool.and_false, if_true, Bool.false_eq_true, if_false] at iN3 f4
      have s1 : (nR : Int) ≤ _ := Int.le_of_eq f4
      have s2 : _ ≤ (nR : Int) := Int.le_of_eq f4.symm
      clear f4
    all_goals
      go_wp2_with fail
      refine (min2_any _ _ _).mono ?_
      rintro e w' ⟨rfl, rfl⟩
      rw [HEM.out]
      clear N2 N3 L3 iN3 eG3 s1 s2 iN1 eG1
      go_wp2
      go_loop [24] (fun i => ∃ k : Nat, k ≤ m ∧ i = .int .i64 k) (fun i => m - (intOf i).toNat)
      case atStart => exact ⟨0, Nat.zero_le _, rfl⟩
      case round =>
        obtain ⟨k, hk, rfl⟩ := hrel
        by_cases hlt : k < m
        · have i0 := fun W => HR0.out.idx k W (by omega)
          have g0 := (HR0.out.below HB.out).cell k (by omega)
          have LB := HL2.out (ss k) (HSS.out k (by omega))
          by_cases hkn : ss k = name
          · have hkb : ((ss k).toList == name.toList) = true := by rw [hkn]; simp
            go_wp2
            go_round
            case rel => exact ⟨k + 1, by omega, by go_num⟩
            case measure => simp [intOf]; omega
          · have LA := HL3.out (ss k) hkn (HSS.out k (by omega))
            go_wp2
            all_goals
              go_round
              case rel => exact ⟨k + 1, by omega, by go_num⟩
              case measure => simp [intOf]; omega
        · go_wp2
          go_ret
          exact ⟨rfl, HB.out⟩

end Go.Proofs.Qxb6000603aMods
