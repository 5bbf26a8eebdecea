/-
  FnMarkIsIdempotent: the walk.
-/
import Derived.Test.Qxb6000603aModsMarkBytes
import Derived.Test.Qxb6000603aModsMarkApart
namespace Go.Proofs.Qxb6000603aMods
open Go.RowKit Go.Maps

set_option maxRecDepth 100000 in
set_option maxHeartbeats 2000000 in
theorem f4_any (a0 : Option Addr) (l0 c0 : Nat) (ad0 : Nat → Addr) (ss : Nat → ByteArray) (a1 : Option Addr) (l1 c1 : Nat) (ad1 : Nat → Addr) (vs : Nat → Bool) (nilSet : Bool) (name : ByteArray) (inn : Bool) (w : World)
    (hr0 : Row 22 w.heap.size w a0 l0 c0 ad0 (fun k => .string (ss k))) (hr1 : Row 23 w.heap.size w a1 l1 c1 ad1 (fun k => .bool (vs k))) (hss : ∀ k, k < l0 → (ss k).size ≤ maxLen) (hn : name.size ≤ maxLen) :
    Calls Trym.prog 4 #[.slice a0 l0 c0, .slice a1 l1 c1, .bool nilSet, .string name, .bool inn] w fun e w' => e = .returned (.bool true) ∧ Below w.heap.size w w' := by
  have HR0 : Hid (Row 22 w.heap.size w a0 l0 c0 ad0 (fun k => .string (ss k))) := hr0
  have HR1 : Hid (Row 23 w.heap.size w a1 l1 c1 ad1 (fun k => .bool (vs k))) := hr1
  have HSS : Hid (∀ k, k < l0 → (ss k).size ≤ maxLen) := hss
  have hl0 := hr0.len_le
  have hl1 := hr1.len_le
  have HN : Hid (name.size ≤ maxLen) := hn
  clear hr0 hr1 hss
  unfold maxLen at hl0 hl1 hn
  go_enter Trym.func4, Trym.ntmps4
  go_wp2_with fail
  refine (bytes14_any a0 l0 c0 ad0 ss w.heap.size a1 l1 c1 nilSet name inn w HR0.out HR1.out.len_le HN.out).mono ?_
  rintro e w' ⟨⟨b, rfl⟩, rfl⟩
  cases b with
  | false =>
    go_wp2
    go_ret
    exact ⟨rfl, Below.refl _ _⟩
  | true =>
    by_cases q0 : (65536 : Int) < l0
    · go_wp2
      go_ret
      exact ⟨rfl, Below.refl _ _⟩
    by_cases q1 : (65536 : Int) < l1
    · go_wp2
      go_ret
      exact ⟨rfl, Below.refl _ _⟩
    by_cases q2 : (1048576 : Int) < name.size
    · go_wp2
      go_ret
      exact ⟨rfl, Below.refl _ _⟩
    go_wp2_with fail
    refine (markBytes_any a0 l0 c0 ad0 ss w.heap.size a1 l1 c1 name w HR0.out (by omega) (by omega) (by omega)).mono ?_
    rintro e w' ⟨⟨t, rfl⟩, rfl⟩
    by_cases q3 : (1048576 : Int) < t
    · go_wp2
      go_ret
      exact ⟨rfl, Below.refl _ _⟩
    go_wp2_with fail
    refine (buildSet_any a0 l0 c0 ad0 ss a1 l1 c1 ad1 vs nilSet w HR0.out HR1.out HSS.out (by omega)).mono ?_
    rintro e w1 ⟨⟨mvB, rfl, hMB⟩, hb1⟩
    have LB := hMB.look HN.out
    go_wp2_with fail
    refine (buildSet_any a0 l0 c0 ad0 ss a1 l1 c1 ad1 vs nilSet w1 ((HR0.out.below hb1).mono hb1.size) ((HR1.out.below hb1).mono hb1.size) HSS.out (by omega)).mono ?_
    rintro e w2 ⟨⟨mvS, rfl, hMS⟩, hb2⟩
    clear LB
    generalize built ss vs nilSet (min l0 l1) = D at hMB hMS
    go_wp2_with fail
    refine (ZZMark_any mvS name inn w2 w1.heap.size 65536 D hMS hb2.size (by unfold maxLen; omega) HN.out).mono ?_
    rintro e w3 ⟨mv1, rfl, hM1, _, hg3⟩
    have hMB3 : Mp w3 w.heap.size mvB 65536 D := (hMB.below hb2).kept hg3 (apart hMB hMS (Nat.le_refl _))
    have B3 : Below w.heap.size w w3 := (hb1.trans (hb2.mono hb1.size)).grown hg3 (Nat.le_trans hb1.size hb2.size) (fun k hk => Nat.le_trans hb1.size (hMS.blt k hk).1)
    have hG := hMS.good
    have F1 := hide (mark_facts hG name inn)
    have eG1 := hM1.eqg
    have iN1 := hM1.isNil
    have L1 := hM1.look HN.out
    have N1 := hM1.len
    have z3 : w1.heap.size ≤ w3.heap.size := Nat.le_trans hb2.size hg3.size
    have AP := hide (apart hMB hM1 (Nat.le_refl _))
    have H1 : Hid (∀ k, mblock mv1 = some k → w.heap.size ≤ k) := fun k hk => Nat.le_trans hb1.size (hM1.blt k hk).1
    rw [(unhide F1).1] at iN1
    rw [(unhide F1).2.1, (unhide F1).2.2.1] at L1
    clear hMB hMS hb1 hb2 hg3
    go_wp2_with fail
    refine (ZZMark_any mv1 name inn w3 w1.heap.size 65537 (markD D name inn) hM1 z3 (by unfold maxLen; omega) HN.out).mono ?_
    rintro e w4 ⟨mv2, rfl, hM2, _, hg4⟩
    have hMB4 : Mp w4 w.heap.size mvB 65536 D := hMB3.kept hg4 (unhide AP)
    have HB : Hid (Below w.heap.size w w4) := B3.grown hg4 B3.size H1.out
    clear hMB3 B3 hM1 hg4 eG1 iN1 L1 N1 AP H1 z3
    obtain ⟨f1, f2, f3, f4, hG1, f6⟩ := unhide F1
    obtain ⟨g1, g2, g3, g4, _, g6⟩ := mark_facts hG1 name inn
    have eG2 := hM2.eqg
    have iN2 := hM2.isNil
    have L2 := hM2.look HN.out
    have N2 := hM2.len
    have NB := hMB4.len
    have hsz := hMB4.size_le
    rw [g1, f1] at iN2
    rw [g2, g3] at L2
    rw [f2] at g4
    have HL2 : Hid (∀ s : ByteArray, s ≠ name → s.size ≤ maxLen → (Instr.lookup 26 mv2 (.string s) true).run Trym.prog w4 = .ok (.tuple #[.bool (bAt D s), .bool (hasAt D s)]) w4) := by
      intro s hne hs
      have := hM2.look hs
      rw [(g6 s hne).1, (g6 s hne).2, (f6 s hne).1, (f6 s hne).2] at this
      exact this
    have HLB : Hid (∀ s : ByteArray, s.size ≤ maxLen → (Instr.lookup 26 mvB (.string s) true).run Trym.prog w4 = .ok (.tuple #[.bool (bAt D s), .bool (hasAt D s)]) w4) := fun s hs => hMB4.look hs
    obtain ⟨m, hm⟩ : ∃ m, m = min l0 l1 := ⟨_, rfl⟩
    have HEM : Hid ((min (l0 : Int) (l1 : Int)) = (m : Int)) := show _ = _ by omega
    have hm0 : m ≤ l0 := by omega
    clear hm F1 hM2 hMB4 hG hG1 f1 f2 f3 f6 g1 g2 g3 g6
    generalize Maps.size (markD (markD D name inn) name inn) = nR at N2 g4
    generalize Maps.size (markD D name inn) = nQ at g4 f4 ⊢
    generalize Maps.size D = nD at NB f4 hsz
    cases hhad : hasAt D name <;> cases inn
    all_goals
      rw [hhad] at f4
      simp only [Bool.not_true, Bool.not_false, Bool.and_true, Bool.and_false, if_true, Bool.false_eq_true, if_false] at iN2 f4 g4
      have s1 : (nQ : Int) ≤ _ := Int.le_of_eq f4
      have s2 : _ ≤ (nQ : Int) := Int.le_of_eq f4.symm
      have s3 : (nR : Int) ≤ _ := Int.le_of_eq g4
      have s4 : _ ≤ (nR : Int) := Int.le_of_eq g4.symm
      clear f4 g4
    all_goals
      go_wp2_with fail
      refine (min2_any _ _ _).mono ?_
      rintro e w' ⟨rfl, rfl⟩
      rw [HEM.out]
      clear N2 NB L2 iN2 eG2 s1 s2 s3 s4
      go_wp2
      go_loop [25] (fun i => ∃ k : Nat, k ≤ m ∧ i = .int .i64 k) (fun i => m - (intOf i).toNat)
      case atStart => exact ⟨0, Nat.zero_le _, rfl⟩
      case round =>
        obtain ⟨k, hk, rfl⟩ := hrel
        by_cases hlt : k < m
        · have i0 := fun W => HR0.out.idx k W (by omega)
          have g0 := (HR0.out.below HB.out).cell k (by omega)
          have LB := HLB.out (ss k) (HSS.out k (by omega))
          by_cases hkn : ss k = name
          · have hkb : ((ss k).toList == name.toList) = true := by rw [hkn]; simp
            go_wp2
            go_round
            case rel => exact ⟨k + 1, by omega, by go_num⟩
            case measure => simp [intOf]; omega
          · have LA := HL2.out (ss k) hkn (HSS.out k (by omega))
            go_wp2
            all_goals
              go_round
              case rel => exact ⟨k + 1, by omega, by go_num⟩
              case measure => simp [intOf]; omega
        · go_wp2
          go_ret
          exact ⟨rfl, HB.out⟩

end Go.Proofs.Qxb6000603aMods
