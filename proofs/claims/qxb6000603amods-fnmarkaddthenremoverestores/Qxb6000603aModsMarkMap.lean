/-
  The maps of the mark laws: 'Mp' says what a map value, nil or of the call's own, reads as; buildSet, mark, ZZMark by contracts.
-/
import Derived.Test.Qxb6000603aModsBase
import Derived.Maps.OwnSet
import Derived.RegionTactic
import Derived.ChangeAlike
namespace Go.Proofs.Qxb6000603aMods
open Go.RowKit Go.Maps
open Go.WideMaps (keyOf_string_mk)

theorem law : Keyed Trym.prog 9 := string_keyed Trym.underlying9
theorem zero4 (w : World) : (zeroValue 4).run Trym.prog w = .ok (.bool false) w := by kernel_rfl

def key (s : ByteArray) : Lit := .string s.data.toList
theorem key_isKey (s : ByteArray) : WideAt.IsKeyLit (key s) := trivial
theorem key_ne {s t : ByteArray} (h : s ≠ t) : key s ≠ key t := by
  intro e
  apply h
  have e1 : s.data.toList = t.data.toList := by simpa [key] using e
  cases s; cases t
  simp at e1
  simp [e1]
theorem key_ok {s : ByteArray} (h : s.size ≤ maxLen) : keyOf Trym.prog 9 (.string s) = some (key s) := keyOf_string_mk Trym.underlying9 h

def bAt (D : DataW Unit) (s : ByteArray) : Bool := match D.atKey (key s) (.lit (.bool false)) with | .lit (.bool x) => x | _ => false
def hasAt (D : DataW Unit) (s : ByteArray) : Bool := Maps.has D (key s)
def nilD : DataW Unit → Bool | .nil => true | _ => false

/-- THE MAP VALUE mv IS nil AND D IS, OR IT IS ONE OF THE CALL's OWN (its block is B or later) THAT READS AS D. -/
def Mp (w : World) (B : Nat) (mv : Value) (n : Nat) (D : DataW Unit) : Prop :=
  (mv = .map none ∧ D = .nil) ∨ ∃ b, mv = .map (some b) ∧ B ≤ b ∧ w.ownsMap Trym.prog 9 (plainElem Trym.prog 4) b n D

theorem elem_bool_inv {v : Value} {z : DataW Unit × List MemPlace} (h : plainElem Trym.prog 4 v = some z) : ∃ x, v = .bool x ∧ z = (.lit (.bool x), []) := by
  unfold plainElem at h
  rw [Trym.underlying4] at h
  cases v <;> simp at h
  exact ⟨_, rfl, h.symm⟩

theorem Mp.look {w : World} {B : Nat} {mv : Value} {n : Nat} {D : DataW Unit} (h : Mp w B mv n D) {s : ByteArray} (hs : s.size ≤ maxLen) :
    (Instr.lookup 26 mv (.string s) true).run Trym.prog w = .ok (.tuple #[.bool (bAt D s), .bool (hasAt D s)]) w := by
  rcases h with ⟨rfl, rfl⟩ | ⟨b, rfl, _, hown⟩
  · rw [Maps.look_nil true law Trym.underlying26 (zero4 w) (key_ok hs)]
    rfl
  · obtain ⟨v, ps, hrun, hv⟩ := hown.look_ok law Trym.underlying26 (zero4 w) (plainElem_bool Trym.underlying4 false) (key_ok hs)
    obtain ⟨x, rfl, hx⟩ := elem_bool_inv hv
    rw [hrun]
    have hb : bAt D s = x := by
      unfold bAt
      rw [(Prod.mk.inj hx).1]
    rw [hb]
    rfl

theorem Mp.len {w : World} {B : Nat} {mv : Value} {n : Nat} {D : DataW Unit} (h : Mp w B mv n D) (ty : TypeId) :
    (Builtin.len_ #[26] ty #[mv]).run Trym.prog w = .ok (.int .i64 (Maps.size D)) w := by
  rcases h with ⟨rfl, rfl⟩ | ⟨b, rfl, _, hown⟩
  · exact Maps.len_nil Trym.underlying26 ty
  · exact hown.len Trym.underlying26 ty

theorem Mp.size_le {w : World} {B : Nat} {mv : Value} {n : Nat} {D : DataW Unit} (h : Mp w B mv n D) : Maps.size D ≤ n := by
  rcases h with ⟨_, rfl⟩ | ⟨b, _, _, hown⟩
  · exact Nat.zero_le _
  · exact hown.size_le

theorem Mp.isNil {w : World} {B : Nat} {mv : Value} {n : Nat} {D : DataW Unit} (h : Mp w B mv n D) (W : World) :
    (binOp .eql 26 mv (.map none)).run Trym.prog W = .ok (.bool (nilD D)) W := by
  rcases h with ⟨rfl, rfl⟩ | ⟨b, rfl, _, hown⟩
  · exact run_eql_map_nil W _ _ _ none Trym.underlying26
  · rw [run_eql_map_nil W _ _ _ (some b) Trym.underlying26]
    obtain ⟨es, rfl⟩ := hown.isMap
    rfl

theorem Mp.eqg {w : World} {B : Nat} {mv : Value} {n : Nat} {D : DataW Unit} (h : Mp w B mv n D) (x y : Operand) : eqGuard .eql 26 x y mv (.map none) = pure () := by
  rcases h with ⟨rfl, rfl⟩ | ⟨b, rfl, _, _⟩ <;> rfl

theorem Mp.mono {w : World} {B B' : Nat} {mv : Value} {n n' : Nat} {D : DataW Unit} (h : Mp w B mv n D) (hB : B' ≤ B) (hn : n ≤ n') : Mp w B' mv n' D := by
  rcases h with h | ⟨b, rfl, hb, hown⟩
  · exact Or.inl h
  · exact Or.inr ⟨b, rfl, Nat.le_trans hB hb, hown.mono hn⟩

/-- The map stays what it is where nothing below the heap's size turns. -/
theorem Mp.below {w w' : World} {B : Nat} {mv : Value} {n : Nat} {D : DataW Unit} (h : Mp w B mv n D) (hb : Below w.heap.size w w') : Mp w' B mv n D := by
  rcases h with h | ⟨b, rfl, hB, hown⟩
  · exact Or.inl h
  · refine Or.inr ⟨b, rfl, hB, ?_⟩
    have hlt := hown.lt
    obtain ⟨es, clock, hh, F, hs, hD⟩ := hown
    exact ⟨es, clock, (hb.block b hlt).trans hh, F, hs, hD⟩

/-- The block of a map value. -/
def mblock : Value → Option Nat
  | .map r => r
  | _ => none

theorem Mp.kept {w w' : World} {B : Nat} {mv : Value} {n : Nat} {D : DataW Unit} {row : Option Nat} (h : Mp w B mv n D) (hg : w.grownBy w' row) (hne : mblock mv = none ∨ mblock mv ≠ row) : Mp w' B mv n D := by
  rcases h with h | ⟨b, rfl, hB, hown⟩
  · exact Or.inl h
  · refine Or.inr ⟨b, rfl, hB, hown.kept hg ?_⟩
    rcases hne with hne | hne
    · cases hne
    · exact hne

theorem Mp.blt {w : World} {B : Nat} {mv : Value} {n : Nat} {D : DataW Unit} (h : Mp w B mv n D) : ∀ b, mblock mv = some b → B ≤ b ∧ b < w.heap.size := by
  rcases h with ⟨rfl, _⟩ | ⟨b, rfl, hB, hown⟩
  · intro b hb; cases hb
  · intro b' hb; cases hb; exact ⟨hB, hown.lt⟩

/-- What buildSet has put together behind k rounds. -/
def bset (ss : Nat → ByteArray) (vs : Nat → Bool) : Nat → DataW Unit
  | 0 => .map []
  | k + 1 => (bset ss vs k).put (key (ss k)) (.lit (.bool (vs k)))
def built (ss : Nat → ByteArray) (vs : Nat → Bool) (nilSet : Bool) (m : Nat) : DataW Unit := if nilSet = true ∧ m = 0 then .nil else bset ss vs m

/-- It returns a map that reads as D, in new memory. -/
def RetMap (w w' : World) (n : Nat) (D : DataW Unit) (e : Ending) : Prop := ∃ mv, e = .returned mv ∧ Mp w' w.heap.size mv n D
theorem RetMap.mk {w w' : World} {n : Nat} {D : DataW Unit} {mv : Value} (h : Mp w' w.heap.size mv n D) : RetMap w w' n D (.returned mv) := ⟨mv, rfl, h⟩

set_option maxRecDepth 100000 in
set_option maxHeartbeats 1000000 in
theorem buildSet_any (a0 : Option Addr) (l0 c0 : Nat) (ad0 : Nat → Addr) (ss : Nat → ByteArray) (a1 : Option Addr) (l1 c1 : Nat) (ad1 : Nat → Addr) (vs : Nat → Bool) (nilSet : Bool) (w : World)
    (hr0 : Row 22 w.heap.size w a0 l0 c0 ad0 (fun k => .string (ss k))) (hr1 : Row 23 w.heap.size w a1 l1 c1 ad1 (fun k => .bool (vs k))) (hss : ∀ k, k < l0 → (ss k).size ≤ maxLen) (_h0 : l0 ≤ 65536) :
    Calls Trym.prog 11 #[.slice a0 l0 c0, .slice a1 l1 c1, .bool nilSet] w fun e w' => RetMap w w' 65536 (built ss vs nilSet (min l0 l1)) e ∧ Below w.heap.size w w' := by
  obtain ⟨m, hm⟩ : ∃ m, m = min l0 l1 := ⟨_, rfl⟩
  have em : (min (l0 : Int) (l1 : Int)) = (m : Int) := by omega
  have hm0 : m ≤ l0 := by omega
  have hm1 : m ≤ l1 := by omega
  rw [← hm]
  have HEM : Hid ((min (l0 : Int) (l1 : Int)) = (m : Int)) := em
  clear em hm
  have hmm := @run_makeMap Trym.prog
  by_cases hn : nilSet = true ∧ m = 0
  · obtain ⟨rfl, rfl⟩ := hn
    go_enter Trym.func11, Trym.ntmps11
    go_wp2_with (first | (go_at_call 13; refine (min2_any _ _ _).mono ?_; rintro e w' ⟨rfl, rfl⟩; rw [HEM.out]))
    go_ret
    exact ⟨RetMap.mk (Or.inl ⟨rfl, by simp [built]⟩), Below.refl _ _⟩
  have HF : Hid (∀ wr : World, wr.ownsMap Trym.prog 9 (plainElem Trym.prog 4) w.heap.size m (bset ss vs m) → RetMap w wr 65536 (built ss vs nilSet m) (.returned (.map (some w.heap.size)))) := by
    intro wr hown
    refine RetMap.mk (Or.inr ⟨_, rfl, Nat.le_refl _, ?_⟩)
    unfold built
    rw [if_neg hn]
    exact hown.mono (by omega)
  have hnn : (nilSet && ((m : Int) == 0)) = false := by
    cases nilSet
    · rfl
    · simp at hn ⊢; omega
  have hcase : nilSet = false ∨ (nilSet = true ∧ ((m : Int) == 0) = false) := by
    cases nilSet
    · exact Or.inl rfl
    · exact Or.inr ⟨rfl, by simpa using hnn⟩
  clear hn hnn
  have HR0 : Hid (Row 22 w.heap.size w a0 l0 c0 ad0 (fun k => .string (ss k))) := hr0
  have HR1 : Hid (Row 23 w.heap.size w a1 l1 c1 ad1 (fun k => .bool (vs k))) := hr1
  have HSS : Hid (∀ k, k < l0 → (ss k).size ≤ maxLen) := hss
  clear hr0 hr1 hss
  rcases hcase with rfl | ⟨rfl, hz⟩
  all_goals
    go_enter Trym.func11, Trym.ntmps11
    go_wp2_with (first | (go_at_call 13; refine (min2_any _ _ _).mono ?_; rintro e w' ⟨rfl, rfl⟩; rw [HEM.out]))
    go_loopw [9] (fun i wr => ∃ k : Nat, k ≤ m ∧ i = .int .i64 k ∧ wr.ownsMap Trym.prog 9 (plainElem Trym.prog 4) w.heap.size k (bset ss vs k) ∧ Below w.heap.size w wr)
      (fun i _ => m - (intOf i).toNat)
    case atStart => exact ⟨0, Nat.zero_le _, rfl, World.ownsMap_made _ _ _ _, (Below.refl _ _).alloc (Nat.le_refl _) _⟩
    case round =>
      obtain ⟨k, hk, rfl, hown, hnx⟩ := hrel
      by_cases hlt : k < m
      · have i0 := fun W => HR0.out.idx k W (by omega)
        have i1 := fun W => HR1.out.idx k W (by omega)
        have g0 := (HR0.out.below hnx).cell k (by omega)
        have g1 := (HR1.out.below hnx).cell k (by omega)
        obtain ⟨w1, hrun, hown1, hgrow1⟩ := (hown.drew).update (t := 26) (e := 4) law Trym.underlying26 (by unfold maxLen; omega) (key_ok (HSS.out k (by omega))) (plainElem_bool Trym.underlying4 (vs k))
        have R2 : Below w.heap.size w w1 := hnx.drew.grown hgrow1 hnx.size (fun j hj => by cases hj; exact Nat.le_refl _)
        clear hown hgrow1 hnx
        go_wp2
        go_region
        go_wp2
        go_roundw
        case rel => exact ⟨k + 1, by omega, by go_num, hown1, R2⟩
        case measure => simp [intOf]; omega
      · have : k = m := by omega
        subst this
        go_wp2
        go_ret
        exact ⟨HF.out _ hown, hnx⟩

def markD (D : DataW Unit) (s : ByteArray) (inn : Bool) : DataW Unit :=
  if inn = true then (if nilD D = true then (DataW.map []).put (key s) (.lit (.bool true)) else D.put (key s) (.lit (.bool true))) else D.del (key s)

/-- What mark hands back: a map that reads as D'; the same map where it was not nil; nothing else has turned. -/
def RetMark (w w' : World) (B : Nat) (mv : Value) (n : Nat) (D D' : DataW Unit) (e : Ending) : Prop :=
  ∃ mv', e = .returned mv' ∧ Mp w' B mv' n D' ∧ (nilD D = false → mv' = mv) ∧ w.grownBy w' (mblock mv)

theorem grownBy_refl (w : World) (row : Option Nat) : w.grownBy w row := ⟨rfl, rfl, rfl, Nat.le_refl _, fun _ _ _ => rfl⟩

set_option maxRecDepth 100000 in
set_option maxHeartbeats 1000000 in
theorem mark_any (mv : Value) (name : ByteArray) (inn : Bool) (w : World) (B n : Nat) (D : DataW Unit) (hM : Mp w B mv n D) (hB : B ≤ w.heap.size) (hn : n < maxLen) (hs : name.size ≤ maxLen) :
    Calls Trym.prog 30 #[mv, .string name, .bool inn] w fun e w' => RetMark w w' B mv (n + 1) D (markD D name inn) e := by
  have hmm := @run_makeMap Trym.prog
  have hq : ∀ (w : World) (r : Option Nat), (binOp .eql 26 (.map r) (.map none)).run Trym.prog w = .ok (.bool r.isNone) w := fun w r => run_eql_map_nil w _ _ _ r Trym.underlying26
  have hkey := key_ok hs
  rcases hM with ⟨rfl, rfl⟩ | ⟨b, rfl, hb, hown⟩
  · cases inn
    · have hd := fun (W : World) (ty : TypeId) => Maps.drop_nil (w := W) law Trym.underlying26 hkey ty
      go_enter Trym.func30, Trym.ntmps30
      go_wp2
      go_ret
      exact ⟨_, rfl, Or.inl ⟨rfl, rfl⟩, fun _ => rfl, grownBy_refl _ _⟩
    · obtain ⟨w1, hrun, hown1, hgrow1⟩ := (World.ownsMap_made w Trym.prog 9 (plainElem (H := Unit) Trym.prog 4)).update (t := 26) (e := 4) law Trym.underlying26 (by unfold maxLen; omega) hkey (plainElem_bool Trym.underlying4 true)
      have R : RetMark w w1 B (.map none) (n + 1) .nil (markD .nil name true) (.returned (.map (some w.heap.size))) := by
        refine ⟨_, rfl, Or.inr ⟨_, rfl, hB, hown1.mono (by omega)⟩, (fun h => by cases h), ?_⟩
        have g := World.grownBy_alloc w (.map #[] 0) none
        refine ⟨hgrow1.os.trans g.os, hgrow1.tape.trans g.tape, hgrow1.output.trans g.output, Nat.le_trans g.size hgrow1.size, fun k hk hne => ?_⟩
        exact (hgrow1.block k (Nat.lt_of_lt_of_le hk g.size) (fun e => by cases e; exact Nat.lt_irrefl _ hk)).trans (g.block k hk (by simp))
      clear hown1 hgrow1
      go_enter Trym.func30, Trym.ntmps30
      go_wp2
      go_ret
      exact R
  · obtain ⟨es, hes⟩ := hown.isMap
    have hnil : nilD D = false := by rw [hes]; rfl
    have HN : Hid (nilD D = false) := hnil
    clear hes hnil
    cases inn
    · go_enter Trym.func30, Trym.ntmps30
      go_wp2_with (first | (at_delete; refine wpList_delete_own _ rfl _ _ 26 9 rfl 4 law Trym.underlying26 _ b n D rfl hown _ _ rfl hkey ?_; intro w1 hown1 hturn1))
      go_ret
      exact ⟨_, rfl, Or.inr ⟨b, rfl, hb, hown1.mono (by omega)⟩, fun _ => rfl, hturn1.grown⟩
    · obtain ⟨w1, hrun, hown1, hgrow1⟩ := hown.update (t := 26) (e := 4) law Trym.underlying26 hn hkey (plainElem_bool Trym.underlying4 true)
      have R : RetMark w w1 B (.map (some b)) (n + 1) D (markD D name true) (.returned (.map (some b))) := by
        refine ⟨_, rfl, Or.inr ⟨b, rfl, hb, ?_⟩, fun _ => rfl, hgrow1⟩
        unfold markD
        rw [if_pos rfl, if_neg (by rw [HN.out]; simp)]
        exact hown1
      clear hown1 hgrow1
      go_enter Trym.func30, Trym.ntmps30
      go_wp2
      go_ret
      exact R

set_option maxHeartbeats 400000 in
theorem ZZMark_any (mv : Value) (name : ByteArray) (inn : Bool) (w : World) (B n : Nat) (D : DataW Unit) (hM : Mp w B mv n D) (hB : B ≤ w.heap.size) (hn : n < maxLen) (hs : name.size ≤ maxLen) :
    Calls Trym.prog 12 #[mv, .string name, .bool inn] w fun e w' => RetMark w w' B mv (n + 1) D (markD D name inn) e := by
  go_enter Trym.func12, Trym.ntmps12
  go_wp2_with (first | (go_at_call 30; refine (mark_any mv name inn _ B n D hM hB hn hs).mono ?_; rintro e w' ⟨mv', rfl, h1, h2, h3⟩))
  go_ret
  exact ⟨_, rfl, h1, h2, h3⟩

end Go.Proofs.Qxb6000603aMods
