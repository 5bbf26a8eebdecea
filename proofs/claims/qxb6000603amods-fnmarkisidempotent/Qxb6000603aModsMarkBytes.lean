/-
  The three byte counters ahead of the mark laws, and markBytes: each returns and leaves the world as it was.
-/
import Derived.Test.Qxb6000603aModsBase
namespace Go.Proofs.Qxb6000603aMods
open Go.RowKit

set_option maxHeartbeats 1000000 in
theorem bytes9_any (a0 : Option Addr) (l0 c0 : Nat) (ad : Nat → Addr) (ss : Nat → ByteArray) (B : Nat) (a1 : Option Addr) (l1 c1 : Nat) (nilSet : Bool) (name : ByteArray) (inn : Bool) (w : World)
    (hr : Row 22 B w a0 l0 c0 ad (fun k => .string (ss k))) (h1 : l1 ≤ maxLen) (hn : name.size ≤ maxLen) :
    Calls Trym.prog 9 #[.slice a0 l0 c0, .slice a1 l1 c1, .bool nilSet, .string name, .bool inn] w fun e w' => RetBool e ∧ w = w' := by
  have hl := hr.len_le
  unfold maxLen at hl h1 hn
  by_cases q0 : (1048576 : Int) < l0
  · go_enter Trym.func9, Trym.ntmps9
    go_wp2
    go_ret
    exact ⟨RetBool.mk _, rfl⟩
  go_enter Trym.func9, Trym.ntmps9
  go_wp2
  go_loop [11, 12] (fun z i => ∃ k : Nat, k ≤ l0 ∧ i = .int .i64 k ∧ ∃ n : Int, 0 ≤ n ∧ n ≤ 1048576 ∧ z = .int .i64 n) (fun _ i => l0 - (intOf i).toNat)
  case atStart => exact ⟨0, Nat.zero_le _, rfl, l0, by omega, by omega, rfl⟩
  case round =>
    obtain ⟨k, hk, rfl, n, hn0, hn1, rfl⟩ := hrel
    by_cases hlt : k < l0
    · have hi := fun W => hr.idx k W hlt
      have hc := hr.cell k hlt
      go_wp2
      all_goals first
        | (go_ret; exact ⟨RetBool.mk _, rfl⟩)
        | skip
      go_round
      case rel => exact ⟨k + 1, by omega, by go_num, _, by omega, by omega, rfl⟩
      case measure => simp [intOf]; omega
    · go_wp2
      all_goals (go_ret; exact ⟨RetBool.mk _, rfl⟩)

set_option maxHeartbeats 1000000 in
theorem bytes14_any (a0 : Option Addr) (l0 c0 : Nat) (ad : Nat → Addr) (ss : Nat → ByteArray) (B : Nat) (a1 : Option Addr) (l1 c1 : Nat) (nilSet : Bool) (name : ByteArray) (inn : Bool) (w : World)
    (hr : Row 22 B w a0 l0 c0 ad (fun k => .string (ss k))) (h1 : l1 ≤ maxLen) (hn : name.size ≤ maxLen) :
    Calls Trym.prog 14 #[.slice a0 l0 c0, .slice a1 l1 c1, .bool nilSet, .string name, .bool inn] w fun e w' => RetBool e ∧ w = w' := by
  have hl := hr.len_le
  unfold maxLen at hl h1 hn
  by_cases q0 : (1048576 : Int) < l0
  · go_enter Trym.func14, Trym.ntmps14
    go_wp2
    go_ret
    exact ⟨RetBool.mk _, rfl⟩
  go_enter Trym.func14, Trym.ntmps14
  go_wp2
  go_loop [11, 12] (fun z i => ∃ k : Nat, k ≤ l0 ∧ i = .int .i64 k ∧ ∃ n : Int, 0 ≤ n ∧ n ≤ 1048576 ∧ z = .int .i64 n) (fun _ i => l0 - (intOf i).toNat)
  case atStart => exact ⟨0, Nat.zero_le _, rfl, l0, by omega, by omega, rfl⟩
  case round =>
    obtain ⟨k, hk, rfl, n, hn0, hn1, rfl⟩ := hrel
    by_cases hlt : k < l0
    · have hi := fun W => hr.idx k W hlt
      have hc := hr.cell k hlt
      go_wp2
      all_goals first
        | (go_ret; exact ⟨RetBool.mk _, rfl⟩)
        | skip
      go_round
      case rel => exact ⟨k + 1, by omega, by go_num, _, by omega, by omega, rfl⟩
      case measure => simp [intOf]; omega
    · go_wp2
      all_goals (go_ret; exact ⟨RetBool.mk _, rfl⟩)

set_option maxHeartbeats 1000000 in
theorem bytes15_any (a0 : Option Addr) (l0 c0 : Nat) (ad : Nat → Addr) (ss : Nat → ByteArray) (B : Nat) (a1 : Option Addr) (l1 c1 : Nat) (nilSet : Bool) (name : ByteArray) (w : World)
    (hr : Row 22 B w a0 l0 c0 ad (fun k => .string (ss k))) (h1 : l1 ≤ maxLen) (hn : name.size ≤ maxLen) :
    Calls Trym.prog 15 #[.slice a0 l0 c0, .slice a1 l1 c1, .bool nilSet, .string name] w fun e w' => RetBool e ∧ w = w' := by
  have hl := hr.len_le
  unfold maxLen at hl h1 hn
  by_cases q0 : (1048576 : Int) < l0
  · go_enter Trym.func15, Trym.ntmps15
    go_wp2
    go_ret
    exact ⟨RetBool.mk _, rfl⟩
  go_enter Trym.func15, Trym.ntmps15
  go_wp2
  go_loop [9, 10] (fun z i => ∃ k : Nat, k ≤ l0 ∧ i = .int .i64 k ∧ ∃ n : Int, 0 ≤ n ∧ n ≤ 1048576 ∧ z = .int .i64 n) (fun _ i => l0 - (intOf i).toNat)
  case atStart => exact ⟨0, Nat.zero_le _, rfl, l0, by omega, by omega, rfl⟩
  case round =>
    obtain ⟨k, hk, rfl, n, hn0, hn1, rfl⟩ := hrel
    by_cases hlt : k < l0
    · have hi := fun W => hr.idx k W hlt
      have hc := hr.cell k hlt
      go_wp2
      all_goals first
        | (go_ret; exact ⟨RetBool.mk _, rfl⟩)
        | skip
      go_round
      case rel => exact ⟨k + 1, by omega, by go_num, _, by omega, by omega, rfl⟩
      case measure => simp [intOf]; omega
    · go_wp2
      all_goals (go_ret; exact ⟨RetBool.mk _, rfl⟩)

set_option maxHeartbeats 1000000 in
theorem markBytes_any (a0 : Option Addr) (l0 c0 : Nat) (ad : Nat → Addr) (ss : Nat → ByteArray) (B : Nat) (a1 : Option Addr) (l1 c1 : Nat) (name : ByteArray) (w : World)
    (hr : Row 22 B w a0 l0 c0 ad (fun k => .string (ss k))) (_h0 : l0 ≤ 65536) (_h1 : l1 ≤ 65536) (_hn : name.size ≤ 1048576) :
    Calls Trym.prog 10 #[.slice a0 l0 c0, .slice a1 l1 c1, .string name] w fun e w' => RetInt e ∧ w = w' := by
  go_enter Trym.func10, Trym.ntmps10
  go_wp2
  go_loop [7, 8] (fun z i => ∃ k : Nat, k ≤ l0 ∧ i = .int .i64 k ∧ ∃ n : Int, z = .int .i64 n) (fun _ i => l0 - (intOf i).toNat)
  case atStart => exact ⟨0, Nat.zero_le _, rfl, _, rfl⟩
  case round =>
    obtain ⟨k, hk, rfl, n, rfl⟩ := hrel
    by_cases hlt : k < l0
    · have hi := fun W => hr.idx k W hlt
      have hc := hr.cell k hlt
      go_wp2
      go_round
      case rel => exact ⟨k + 1, by omega, by go_num, _, rfl⟩
      case measure => simp [intOf]; omega
    · go_wp2
      go_ret
      exact ⟨RetInt.mk _, rfl⟩

end Go.Proofs.Qxb6000603aMods
