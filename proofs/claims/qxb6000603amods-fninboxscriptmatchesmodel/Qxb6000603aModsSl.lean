/-
  A slice of the call's own at whatever offset of its block ('in.unacked[n:]' moves it): 'Sl', and append onto it.
-/
import Derived.Test.Qxb6000603aModsBase
import Derived.ArgAppend
import Derived.Deep.RegionLaw
namespace Go.Proofs.Qxb6000603aMods
open Go.RowKit

def bk (a : Option Addr) : Option Nat := a.map (·.block)

/-- THE SLICE (a, n, cap) IS nil, OR LIES IN A BLOCK FROM B ON, not frozen, AND HOLDS THE CELLS xs (size cells an element). -/
def Sl (w : World) (B size : Nat) (a : Option Addr) (n cap : Nat) (xs : List Value) : Prop :=
  xs.length = n * size ∧
  ((a = none ∧ n = 0 ∧ cap = 0) ∨
   ∃ g off, a = some ⟨g, off, none⟩ ∧ B ≤ g ∧ g < w.heap.size ∧ n ≤ cap ∧ cap ≤ maxLen ∧ (∀ j u, xs[j]? = some u → w.cell? ⟨g, off + j, none⟩ = some u) ∧
     ∀ j, j < cap * size → (w.cell? ⟨g, off + j, none⟩).isSome = true ∧ w.frozen? ⟨g, off + j, none⟩ = false)

theorem Sl.nil (w : World) (B size : Nat) : Sl w B size none 0 0 [] := ⟨by simp, Or.inl ⟨rfl, rfl, rfl⟩⟩

section
variable {w : World} {B size : Nat} {a : Option Addr} {n cap : Nat} {xs : List Value}

theorem Sl.blt (h : Sl w B size a n cap xs) : ∀ b, bk a = some b → B ≤ b ∧ b < w.heap.size := by
  rcases h.2 with ⟨rfl, _, _⟩ | ⟨g, off, rfl, hB, hg, _⟩
  · intro b hb; cases hb
  · intro b hb; cases hb; exact ⟨hB, hg⟩

theorem Sl.kept {w' : World} {row : Option Nat} (h : Sl w B size a n cap xs) (hg : w.grownBy w' row) (hne : bk a = none ∨ bk a ≠ row) : Sl w' B size a n cap xs := by
  refine ⟨h.1, ?_⟩
  rcases h.2 with h0 | ⟨g, off, rfl, hB, hlt, h1, h2, h3, h4⟩
  · exact Or.inl h0
  · have hb : w'.heap[g]? = w.heap[g]? := hg.block g hlt (by rcases hne with h | h; cases h; exact h)
    refine Or.inr ⟨g, off, rfl, hB, Nat.lt_of_lt_of_le hlt hg.size, h1, h2, fun j u hu => ?_, fun j hj => ?_⟩
    · rw [World.cell?_of_block (w := w) (a := ⟨g, off + j, none⟩) hb]; exact h3 j u hu
    · rw [World.cell?_of_block (w := w) (a := ⟨g, off + j, none⟩) hb, World.frozen?_of_block (w := w) (a := ⟨g, off + j, none⟩) hb]; exact h4 j hj

theorem Sl.alloc (h : Sl w B size a n cap xs) (o : Obj) : Sl (w.alloc o) B size a n cap xs :=
  h.kept (World.grownBy_alloc w o none) (by cases e : bk a <;> simp)

theorem Sl.of_owns {e : TypeId} {v : Value} {base : Nat} (h : w.ownsRow base e size v n xs) (hn : 0 < n) (hB : B ≤ base) :
    ∃ g c, v = .slice (some ⟨g, 0, none⟩) n c ∧ base ≤ g ∧ Sl w B size (some ⟨g, 0, none⟩) n c xs := by
  rcases h.2 with ⟨_, h0⟩ | ⟨g, c, cur, rfl, hb, hg, h1, h2, h3, h4⟩
  · omega
  · refine ⟨g, c, rfl, hb, h.1, Or.inr ⟨g, 0, rfl, Nat.le_trans hB hb, (Array.getElem?_eq_some_iff.1 hg).1, h1, h2, fun j u hu => ?_, fun j hj => ?_⟩⟩
    · rw [Nat.zero_add, cell_of_row w g j cur e (0, 0) hg]
      rw [← h4, List.getElem?_take] at hu
      split at hu
      · simpa using hu
      · cases hu
    · rw [Nat.zero_add, cell_of_row w g j cur e (0, 0) hg]
      refine ⟨?_, ?_⟩
      · rw [Array.getElem?_eq_getElem (by omega)]; rfl
      · simp [World.frozen?, hg]

/-- 's[k:]' -/
theorem Sl.drop (h : Sl w B size a n cap xs) {k : Nat} (hk : k ≤ n) : Sl w B size (if cap = k then a else a.map (·.add (k * size))) (n - k) (cap - k) (xs.drop (k * size)) := by
  refine ⟨by rw [List.length_drop, h.1, Nat.sub_mul], ?_⟩
  rcases h.2 with ⟨rfl, rfl, rfl⟩ | ⟨g, off, rfl, hB, hlt, h1, h2, h3, h4⟩
  · left
    have : k = 0 := by omega
    subst this
    exact ⟨rfl, rfl, rfl⟩
  · right
    by_cases hc : cap = k
    · subst hc
      have hn : n = cap := by omega
      subst hn
      refine ⟨g, off, by simp, hB, hlt, by omega, by omega, fun j u hu => ?_, fun j hj => ?_⟩
      · rw [List.drop_of_length_le (by rw [h.1]; exact Nat.le_refl _)] at hu
        cases hu
      · simp at hj
    · refine ⟨g, off + k * size, by rw [if_neg hc, Option.map_some, Addr.add_lit], hB, hlt, by omega, by omega, fun j u hu => ?_, fun j hj => ?_⟩
      · rw [Nat.add_assoc]
        exact h3 _ u (by rw [← List.getElem?_drop]; exact hu)
      · rw [Nat.add_assoc]
        refine h4 _ ?_
        rw [Nat.sub_mul] at hj
        omega

theorem bk_drop (a : Option Addr) (c : Prop) [Decidable c] (k : Nat) : bk (if c then a else a.map (·.add k)) = bk a := by
  cases a with
  | none => split <;> rfl
  | some x =>
    split
    · rfl
    · simp [bk, Addr.add]
      split <;> rfl

/-- 's[:k]' -/
theorem Sl.take (h : Sl w B size a n cap xs) {k : Nat} (hk : k ≤ n) : Sl w B size a k cap (xs.take (k * size)) := by
  have hm : k * size ≤ n * size := Nat.mul_le_mul_right _ hk
  refine ⟨by rw [List.length_take, h.1]; omega, ?_⟩
  rcases h.2 with ⟨rfl, rfl, rfl⟩ | ⟨g, off, rfl, hB, hlt, h1, h2, h3, h4⟩
  · exact Or.inl ⟨rfl, by omega, rfl⟩
  · refine Or.inr ⟨g, off, rfl, hB, hlt, by omega, h2, fun j u hu => ?_, h4⟩
    rw [List.getElem?_take] at hu
    split at hu
    · exact h3 j u hu
    · cases hu

/-- A cell of the slice is written. -/
theorem Sl.set {g off : Nat} (h : Sl w B size (some ⟨g, off, none⟩) n cap xs) {j : Nat} (hj : j < n * size) (v : Value) : Sl (w.setCell ⟨g, off + j, none⟩ v) B size (some ⟨g, off, none⟩) n cap (xs.set j v) := by
  refine ⟨by rw [List.length_set]; exact h.1, ?_⟩
  rcases h.2 with ⟨h0, _, _⟩ | ⟨g', off', he, hB, hlt, h1, h2, h3, h4⟩
  · cases h0
  · cases he
    have hm : n * size ≤ cap * size := Nat.mul_le_mul_right _ h1
    have hsome := (h4 j (by omega)).1
    obtain ⟨u0, hu0⟩ := Option.isSome_iff_exists.1 hsome
    have hcell : ∀ i, (w.setCell ⟨g, off + j, none⟩ v).cell? ⟨g, off + i, none⟩ = if i = j then some v else w.cell? ⟨g, off + i, none⟩ := by
      intro i
      by_cases hi : i = j
      · subst hi
        rw [if_pos rfl]
        exact World.cell?_setCell_same w _ v hu0
      · rw [if_neg hi]
        exact World.cell?_setCell_other w _ _ v (by intro e; simp only [Addr.mk.injEq, true_and, and_true] at e; omega)
    refine Or.inr ⟨g, off, rfl, hB, by simpa [World.setCell] using hlt, h1, h2, fun i u hu => ?_, fun i hi => ?_⟩
    · rw [hcell]
      rw [List.getElem?_set] at hu
      by_cases hij : i = j
      · subst hij
        rw [if_pos rfl] at hu ⊢
        split at hu
        · exact hu
        · cases hu
      · rw [if_neg (fun e => hij e.symm)] at hu
        rw [if_neg hij]
        exact h3 i u hu
    · rw [hcell, World.frozen?_setCell]
      refine ⟨?_, (h4 i hi).2⟩
      split
      · rfl
      · exact (h4 i hi).1

end

theorem size_setCells (w : World) (g o : Nat) (vs : List Value) : w.heap.size ≤ (w.setCells g o vs).heap.size := by
  induction vs generalizing o w with
  | nil => exact Nat.le_refl _
  | cons v r ih => exact Nat.le_trans (by simp [World.setCell]) (ih (w.setCell ⟨g, o, none⟩ v) (o + 1))
theorem tape_setCells (w : World) (g o : Nat) (vs : List Value) : (w.setCells g o vs).tape = w.tape := by
  induction vs generalizing o w with
  | nil => rfl
  | cons v r ih => exact ih (w.setCell ⟨g, o, none⟩ v) (o + 1)
theorem heap_setCells (w : World) (g o : Nat) (vs : List Value) (k : Nat) (hk : k ≠ g) : (w.setCells g o vs).heap[k]? = w.heap[k]? := by
  induction vs generalizing o w with
  | nil => rfl
  | cons v r ih => exact (ih (w.setCell ⟨g, o, none⟩ v) (o + 1)).trans (Below.heap_setCell w ⟨g, o, none⟩ v k hk)

theorem some_setCell (w : World) (p x : Addr) (v : Value) (h : (w.cell? x).isSome = true) : ((w.setCell p v).cell? x).isSome = true := by
  by_cases e : p = x
  · subst e
    obtain ⟨u, hu⟩ := Option.isSome_iff_exists.1 h
    rw [World.cell?_setCell_same w p v hu]
    rfl
  · rw [World.cell?_setCell_other w _ _ v e]
    exact h
theorem some_setCells (w : World) (g o : Nat) (vs : List Value) (x : Addr) (h : (w.cell? x).isSome = true) : ((w.setCells g o vs).cell? x).isSome = true := by
  induction vs generalizing o w with
  | nil => exact h
  | cons v r ih => exact ih (w.setCell ⟨g, o, none⟩ v) (o + 1) (some_setCell w _ x v h)

/-- What an append of one element leaves. -/
structure Grew (w w' : World) (B size : Nat) (a a' : Option Addr) (n cap' : Nat) (xs : List Value) : Prop where
  sl : Sl w' B size a' n cap' xs
  grown : w.grownBy w' (bk a)
  lies : bk a' = bk a ∨ ∃ g, bk a' = some g ∧ w.heap.size ≤ g

section
variable {P : Program} {w : World} {B size : Nat} {a : Option Addr} {n cap : Nat} {xs : List Value}

/-- append(s, x), x of 'size' cells that lie at 'ad'. -/
theorem run_append_sl (t ty e : TypeId) (i : TypeInfo) (z : Value) (bytes : Nat) (ht : P.underlying t = some (.slice e)) (hi : P.info? e = some i) (hz : i.zero = some z)
    (hsize : i.size = size) (hby : i.bytes = bytes) (hzs : z.cells.size = size) (hsz : 0 < size)
    (h : Sl w B size a n cap xs) (hB : B ≤ w.heap.size)
    (ad : Addr) (c : Nat) (news : List Value) (hl : news.length = 1 * size) (hnews : ∀ j u, news[j]? = some u → w.cell? (ad.add j) = some u) (h1 : ∀ u ∈ news, u.oneCell' = true)
    (h63 : n + 1 ≤ maxLen) (hbytes : (n + 1) * bytes ≤ 140737488355328) :
    ∃ a' cap' w', (Builtin.append_ #[t, t] ty #[.slice a n cap, .slice (some ad) 1 c]).run P w = .ok (.slice a' (n + 1) cap') w' ∧ Grew w w' B size a a' (n + 1) cap' (xs ++ news) := by
  have hlen : (xs ++ news).length = (n + 1) * size := by rw [List.length_append, h.1, hl, Nat.add_mul]
  rcases h.2 with ⟨rfl, rfl, rfl⟩ | ⟨g, off, rfl, hBg, hlt, hn1, hn2, h3, h4⟩
  · have hx : xs = [] := List.eq_nil_of_length_eq_zero (by simpa using h.1)
    subst hx
    obtain ⟨v', w', hrun, r1, r2, _⟩ := run_append_own (P := P) w w.heap.size t ty e i z size bytes ht hi hz hsize hby hzs hsz (.slice none 0 0) 0 [] (World.ownsRow_nil w _ e size) ad 1 c news hl hnews h1 h63 hbytes (Nat.le_refl _)
    obtain ⟨g, c', rfl, hg, hs⟩ := Sl.of_owns (B := B) r1 (by omega) hB
    exact ⟨_, c', w', hrun, hs, r2, Or.inr ⟨g, rfl, hg⟩⟩
  · by_cases hr : n + 1 ≤ cap
    · have hm : (n + 1) * size ≤ cap * size := Nat.mul_le_mul_right _ hr
      rw [Nat.add_mul] at hm
      subst hsize
      have hrun := run_append_room_cells (P := P) w t ty e i ht hi g off n cap ad 1 c news hl hnews h1 hr
        (fun j hj => by rw [Nat.add_assoc]; exact (h4 _ (by omega)).1) (fun j hj => by rw [Nat.add_assoc]; exact (h4 _ (by omega)).2)
      refine ⟨some ⟨g, off, none⟩, cap, _, hrun, ⟨hlen, Or.inr ⟨g, off, rfl, hBg, ?_, hr, hn2, fun j u hu => ?_, fun j hj => ?_⟩⟩, ⟨?_, ?_, ?_, ?_, fun k hk hne => ?_⟩, Or.inl rfl⟩
      · exact Nat.lt_of_lt_of_le hlt (size_setCells w _ _ _)
      · rw [List.getElem?_append] at hu
        split at hu
        · rename_i hj
          rw [h.1] at hj
          rw [World.cell?_setCells_out _ _ _ _ _ (fun _ _ => Or.inl (by simp only; omega))]
          exact h3 j u hu
        · rename_i hj
          rw [h.1] at hj hu
          have hjn : j - n * i.size < news.length := by
            rcases Nat.lt_or_ge (j - n * i.size) news.length with h' | h'
            · exact h'
            · rw [List.getElem?_eq_none h'] at hu; cases hu
          have e1 : off + j = off + n * i.size + (j - n * i.size) := by omega
          rw [e1, World.cell?_setCells_in _ _ _ _ (fun q hq => by rw [Nat.add_assoc]; exact (h4 _ (by omega)).1) _ hjn]
          rw [List.getElem?_eq_getElem hjn] at hu
          exact hu
      · rw [World.frozen?_setCells]
        exact ⟨some_setCells _ _ _ _ _ (h4 j hj).1, (h4 j hj).2⟩
      · exact (World.keptBut_setCells g (may := fun _ => True) news _ w (fun _ _ => trivial)).1
      · exact tape_setCells w _ _ _
      · exact (World.keptBut_setCells g (may := fun _ => True) news _ w (fun _ _ => trivial)).2.1
      · exact size_setCells w _ _ _
      · exact heap_setCells w _ _ _ k (fun e => hne (by rw [e]; rfl))
    · obtain ⟨v', w', hrun, r1, r2⟩ := run_append_arg_grows (P := P) w t ty e i z size bytes ht hi hz hsize hby hzs hsz ⟨g, off, none⟩ n cap xs h.1 (fun j u hj => by rw [Addr.add_lit]; exact h3 j u hj) ad 1 c news hl hnews (by omega) h63 hbytes
      obtain ⟨g', c', rfl, hg', hs⟩ := Sl.of_owns (B := B) r1 (by omega) hB
      exact ⟨_, c', w', hrun, hs, ⟨r2.os, r2.tape, r2.output, r2.size, fun k hk _ => r2.block k hk (by simp)⟩, Or.inr ⟨g', rfl, hg'⟩⟩

/-- At the operation. -/
theorem wp_append_sl {o : Oper} {act : Act} {K : Act → World → Prop} {Q : Exit → Act → World → Prop} (s x : Operand) (t : TypeId)
    (ho : o.op = .call { callee := .builtin .append, args := #[s, x], argTypes := #[t, t] })
    (e : TypeId) (i : TypeInfo) (z : Value) (bytes : Nat) (ht : P.underlying t = some (.slice e)) (hi : P.info? e = some i) (hz : i.zero = some z)
    (hsize : i.size = size) (hby : i.bytes = bytes) (hzs : z.cells.size = size) (hsz : 0 < size)
    (hs : act.eval s = .slice a n cap) (h : Sl w B size a n cap xs) (hB : B ≤ w.heap.size)
    (ad : Addr) (c : Nat) (news : List Value) (hx : act.eval x = .slice (some ad) 1 c) (hl : news.length = 1 * size) (hnews : ∀ j u, news[j]? = some u → w.cell? (ad.add j) = some u) (h1 : ∀ u ∈ news, u.oneCell' = true)
    (h63 : n + 1 ≤ maxLen) (hbytes : (n + 1) * bytes ≤ 140737488355328)
    (hK : ∀ a' cap' w', Grew w w' B size a a' (n + 1) cap' (xs ++ news) → K (act.put o.dst (.slice a' (n + 1) cap')) w') : o.wp P act w K Q := by
  obtain ⟨a', cap', w', hr, h2⟩ := run_append_sl (P := P) t o.type e i z bytes ht hi hz hsize hby hzs hsz h hB ad c news hl hnews h1 h63 hbytes
  unfold Oper.wp execOp
  simp only [ho, resolve, invoke, builtin, Sem.run_bind, Sem.run_pure, Result.andThen_ok, List.map_toArray, List.map_cons, List.map_nil, hs, hx, hr]
  exact hK a' cap' w' h2

/-- At the list of a plain region's operations. -/
theorem wpList_append_sl {ops : Array Oper} {rest : List Oper} {o : Oper} {act : Act} {Q : Exit → Act → World → Prop} (hgd : o.guard = none) (s x : Operand) (t : TypeId)
    (ho : o.op = .call { callee := .builtin .append, args := #[s, x], argTypes := #[t, t] })
    (e : TypeId) (i : TypeInfo) (z : Value) (bytes : Nat) (ht : P.underlying t = some (.slice e)) (hi : P.info? e = some i) (hz : i.zero = some z)
    (hsize : i.size = size) (hby : i.bytes = bytes) (hzs : z.cells.size = size) (hsz : 0 < size)
    (hs : act.eval s = .slice a n cap) (h : Sl w B size a n cap xs) (hB : B ≤ w.heap.size)
    (ad : Addr) (c : Nat) (news : List Value) (hx : act.eval x = .slice (some ad) 1 c) (hl : news.length = 1 * size) (hnews : ∀ j u, news[j]? = some u → w.cell? (ad.add j) = some u) (h1 : ∀ u ∈ news, u.oneCell' = true)
    (h63 : n + 1 ≤ maxLen) (hbytes : (n + 1) * bytes ≤ 140737488355328)
    (hK : ∀ a' cap' w', Grew w w' B size a a' (n + 1) cap' (xs ++ news) → wpList P ops Q rest (act.put o.dst (.slice a' (n + 1) cap')) w') : wpList P ops Q (o :: rest) act w :=
  wpList_plain hgd fun _ hK' => wp_append_sl s x t ho e i z bytes ht hi hz hsize hby hzs hsz hs h hB ad c news hx hl hnews h1 h63 hbytes fun a' cap' w' h2 => hK' _ _ (hK a' cap' w' h2)

/-- At a step of a region that draws its order. -/
theorem step_append_sl {ops : Array Oper} {o : Oper} {act : Act} {K : Act → World → Prop} {Q : Exit → Act → World → Prop} {E : Prop} (hgd : o.guard = none) (s x : Operand) (t : TypeId)
    (ho : o.op = .call { callee := .builtin .append, args := #[s, x], argTypes := #[t, t] })
    (e : TypeId) (i : TypeInfo) (z : Value) (bytes : Nat) (ht : P.underlying t = some (.slice e)) (hi : P.info? e = some i) (hz : i.zero = some z)
    (hsize : i.size = size) (hby : i.bytes = bytes) (hzs : z.cells.size = size) (hsz : 0 < size)
    (hs : act.eval s = .slice a n cap) (h : Sl w B size a n cap xs) (hB : B ≤ w.heap.size)
    (ad : Addr) (c : Nat) (news : List Value) (hx : act.eval x = .slice (some ad) 1 c) (hl : news.length = 1 * size) (hnews : ∀ j u, news[j]? = some u → w.cell? (ad.add j) = some u) (h1 : ∀ u ∈ news, u.oneCell' = true)
    (h63 : n + 1 ≤ maxLen) (hbytes : (n + 1) * bytes ≤ 140737488355328)
    (hK : ∀ a' cap' w', Grew w w' B size a a' (n + 1) cap' (xs ++ news) → K (act.put o.dst (.slice a' (n + 1) cap')) w') :
    if Region.wanted o (yielded ops act.tmps) = true then Oper.wp P o act w K Q else E := by
  have hw : Region.wanted o (yielded ops act.tmps) = true := by simp [Region.wanted, hgd]
  rw [if_pos hw]
  exact wp_append_sl s x t ho e i z bytes ht hi hz hsize hby hzs hsz hs h hB ad c news hx hl hnews h1 h63 hbytes hK

end

end Go.Proofs.Qxb6000603aMods
