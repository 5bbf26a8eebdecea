/-
  FnInboxScriptMatchesModel: what the inbox and the two slices of the model hold between the steps; the plain law on filters.
-/
import Derived.Test.Qxb6000603aModsInboxGive
namespace Go.Proofs.Qxb6000603aMods
open Go.RowKit

theorem info32 : (Trym.prog.info? 32).map (fun i => (i.zero, i.size, i.bytes)) = some (some (.int .u64 0), 1, 8) := by kernel_rfl

theorem Drawn.under {w w' : World} (h : Drawn w w') (B : Nat) : Below B w w' := ⟨h.os, h.tape, h.output, by rw [h.heap]; exact Nat.le_refl _, fun k _ => by rw [h.heap]⟩

theorem Inbox.dr {w w' : World} {B ib : Nat} {g h : Int} {a : Option Addr} {cap : Nat} {fs : List (Int × Int)} (I : Inbox w B ib g h a cap fs) (hd : Drawn w w') : Inbox w' B ib g h a cap fs :=
  I.kept (hd.grown none) (by simp) (by cases e : bk a <;> simp)

theorem quiet_eq {P : Program} {f : FuncId} {args : Array Value} {w : World} {n : Nat} {v : Value} (h : Calls P f args (w.drewN n) fun e w' => e = .returned v ∧ w.drewN n = w') :
    Calls P f args (w.drewN n) fun e w'' => e = .returned v ∧ ∃ m, w'' = w.drewN m := h.mono fun _ _ ⟨he, hm⟩ => ⟨he, n, hm.symm⟩

theorem newInbox_to (g h : Int) (w : World) (B ib : Nat) (hB : B ≤ w.heap.size) (hib : ib = w.heap.size) :
    Calls Trym.prog 17 #[.int .u64 g, .int .u64 h] w fun e w' => e = .returned (.pointer (some ⟨ib, 0, none⟩)) ∧ Inbox w' B ib g h none 0 [] ∧ Below w.heap.size w w' := by
  subst hib
  exact newInbox_any g h w B hB

def ints (xs : List Int) : List Value := xs.map (Value.int .u64)
theorem ints_length (xs : List Int) : (ints xs).length = xs.length := by simp [ints]
theorem ints_append (xs ys : List Int) : ints (xs ++ ys) = ints xs ++ ints ys := by simp [ints]
theorem ints_take (xs : List Int) (k : Nat) : (ints xs).take k = ints (xs.take k) := by simp [ints, List.map_take]
theorem ints_set (xs : List Int) (k : Nat) (x : Int) : (ints xs).set k (.int .u64 x) = ints (xs.set k x) := by simp [ints, List.map_set]
theorem ints_get {xs : List Int} {j : Nat} {x : Int} (h : xs[j]? = some x) : (ints xs)[j]? = some (.int .u64 x) := by simp [ints, h]

/-- THE INBOX (given g, handled h, frames fs) AND THE TWO SLICES OF THE MODEL (xs, ys), each in blocks of its own; below B nothing has turned. -/
structure Mid (w wr : World) (B ib : Nat) (g h : Int) (fs : List (Int × Int)) (a : Option Addr) (cap : Nat) (aL : Option Addr) (cL : Nat) (xs : List Int) (aQ : Option Addr) (cQ : Nat) (ys : List Int) : Prop where
  inb : Inbox wr B ib g h a cap fs
  sL : Sl wr B 1 aL xs.length cL (ints xs)
  sQ : Sl wr B 1 aQ ys.length cQ (ints ys)
  dL : ∀ b, bk aL = some b → b ≠ ib ∧ bk a ≠ some b ∧ bk aQ ≠ some b
  dQ : ∀ b, bk aQ = some b → b ≠ ib ∧ bk a ≠ some b
  bel : Below B w wr

section
variable {w wr : World} {B ib : Nat} {g h : Int} {fs : List (Int × Int)} {a : Option Addr} {cap : Nat} {aL : Option Addr} {cL : Nat} {xs : List Int} {aQ : Option Addr} {cQ : Nat} {ys : List Int}

theorem Sl.touched {w1 : World} {size n cap : Nat} {x : Option Addr} {vs : List Value} {r : Option Nat} (h : Sl wr B size x n cap vs) (hT : Touch wr w1 ib r) (hd : ∀ b, bk x = some b → b ≠ ib ∧ r ≠ some b) : Sl w1 B size x n cap vs := by
  refine ⟨h.1, ?_⟩
  rcases h.2 with h0 | ⟨gb, off, rfl, hB, hlt, h1, h2, h3, h4⟩
  · exact Or.inl h0
  · have hb : w1.heap[gb]? = wr.heap[gb]? := hT.block gb hlt (hd gb rfl).1 (fun e => (hd gb rfl).2 e.symm)
    refine Or.inr ⟨gb, off, rfl, hB, Nat.lt_of_lt_of_le hlt hT.size, h1, h2, fun j u hu => ?_, fun j hj => ?_⟩
    · rw [World.cell?_of_block (w := wr) (a := ⟨gb, off + j, none⟩) hb]; exact h3 j u hu
    · rw [World.cell?_of_block (w := wr) (a := ⟨gb, off + j, none⟩) hb, World.frozen?_of_block (w := wr) (a := ⟨gb, off + j, none⟩) hb]; exact h4 j hj

/-- The inbox is written by one of its own functions. -/
theorem Mid.upd {w1 : World} {g' h' : Int} {fs' : List (Int × Int)} (M : Mid w wr B ib g h fs a cap aL cL xs aQ cQ ys) (hU : Upd wr w1 B ib (bk a) g' h' fs') :
    ∃ a' cap', Mid w w1 B ib g' h' fs' a' cap' aL cL xs aQ cQ ys := by
  obtain ⟨a', cap', I, hl, hT⟩ := hU
  have far : ∀ b, b < wr.heap.size → bk a ≠ some b → bk a' ≠ some b := by
    intro b hb hne e
    rcases hl with e' | e' | ⟨q, e', hq⟩
    · rw [e] at e'; cases e'
    · rw [e'] at e; exact hne e
    · rw [e'] at e; cases e; omega
  refine ⟨a', cap', I, M.sL.touched hT (fun b hb => ⟨(M.dL b hb).1, (M.dL b hb).2.1⟩), M.sQ.touched hT (fun b hb => ⟨(M.dQ b hb).1, (M.dQ b hb).2⟩),
    fun b hb => ⟨(M.dL b hb).1, far b (M.sL.blt b hb).2 (M.dL b hb).2.1, (M.dL b hb).2.2⟩, fun b hb => ⟨(M.dQ b hb).1, far b (M.sQ.blt b hb).2 (M.dQ b hb).2⟩, ?_⟩
  exact M.bel.trans (hT.below M.inb.box.lo M.inb.box.lt (fun b hb => (M.inb.sl.blt b hb).1))

theorem Took.upd {w1 : World} {r : Option Nat} (h' : Took wr w1 B ib r g h fs) : Upd wr w1 B ib r g h fs := by
  obtain ⟨a', cap', I, hl, hT, _⟩ := h'
  exact ⟨a', cap', I, by rcases hl with e | e; exact Or.inl e; exact Or.inr (Or.inl e), hT⟩

theorem Mid.drawn {w1 : World} (M : Mid w wr B ib g h fs a cap aL cL xs aQ cQ ys) (hd : Drawn wr w1) : Mid w w1 B ib g h fs a cap aL cL xs aQ cQ ys :=
  ⟨M.inb.dr hd, M.sL.kept (hd.grown none) (by cases e : bk aL <;> simp), M.sQ.kept (hd.grown none) (by cases e : bk aQ <;> simp), M.dL, M.dQ, M.bel.trans (hd.under B)⟩

/-- mLast = append(mLast, x): behind the block that is laid for x. -/
theorem Mid.grewL {W w1 : World} {x : Int} {aL' : Option Addr} {cL' : Nat} (M : Mid w wr B ib g h fs a cap aL cL xs aQ cQ ys) (hW : wr.grownBy W none) (G : Grew W w1 B 1 aL aL' (xs.length + 1) cL' (ints xs ++ [.int .u64 x])) :
    Mid w w1 B ib g h fs a cap aL' cL' (xs ++ [x]) aQ cQ ys := by
  have hne : ∀ {x : Option Addr}, (bk x = none ∨ bk x ≠ none) := by intro x; cases e : bk x <;> simp
  have hBs : B ≤ wr.heap.size := Nat.le_trans M.inb.box.lo (Nat.le_of_lt M.inb.box.lt)
  have far : ∀ b, b < wr.heap.size → bk aL ≠ some b → bk aL' ≠ some b := by
    intro b hb hn e
    rcases G.lies with e' | ⟨q, e', hq⟩
    · rw [e'] at e; exact hn e
    · rw [e'] at e; cases e; have := hW.size; omega
  have old : ∀ b, bk aL' = some b → bk aL = some b ∨ wr.heap.size ≤ b := by
    intro b e
    rcases G.lies with e' | ⟨q, e', hq⟩
    · exact Or.inl (e' ▸ e)
    · rw [e'] at e; cases e; exact Or.inr (Nat.le_trans hW.size hq)
  have ia : ∀ b, bk a = some b → b < wr.heap.size := fun b hb => (M.inb.sl.blt b hb).2
  have iQ : ∀ b, bk aQ = some b → b < wr.heap.size := fun b hb => (M.sQ.blt b hb).2
  refine ⟨(M.inb.kept hW (by simp) hne).kept G.grown (fun e => (M.dL ib e.symm).1 rfl) ?_, ?_, (M.sQ.kept hW hne).kept G.grown ?_, fun b hb => ?_, M.dQ, ?_⟩
  · cases e : bk a with
    | none => exact Or.inl rfl
    | some b => exact Or.inr (fun e2 => (M.dL b e2.symm).2.1 e)
  · have := G.sl
    rw [List.length_append, List.length_singleton, ints_append]
    exact this
  · cases e : bk aQ with
    | none => exact Or.inl rfl
    | some b => exact Or.inr (fun e2 => (M.dL b e2.symm).2.2 e)
  · rcases old b hb with e | e
    · exact M.dL b e
    · exact ⟨by have := M.inb.box.lt; omega, fun e2 => by have := ia b e2; omega, fun e2 => by have := iQ b e2; omega⟩
  · exact (M.bel.grown hW hBs (fun k hk => by cases hk)).grown G.grown (Nat.le_trans hBs hW.size) (fun k hk => (M.sL.blt k hk).1)

/-- mSeq = append(mSeq, y). -/
theorem Mid.grewQ {W w1 : World} {y : Int} {aQ' : Option Addr} {cQ' : Nat} (M : Mid w wr B ib g h fs a cap aL cL xs aQ cQ ys) (hW : wr.grownBy W none) (G : Grew W w1 B 1 aQ aQ' (ys.length + 1) cQ' (ints ys ++ [.int .u64 y])) :
    Mid w w1 B ib g h fs a cap aL cL xs aQ' cQ' (ys ++ [y]) := by
  have hne : ∀ {x : Option Addr}, (bk x = none ∨ bk x ≠ none) := by intro x; cases e : bk x <;> simp
  have hBs : B ≤ wr.heap.size := Nat.le_trans M.inb.box.lo (Nat.le_of_lt M.inb.box.lt)
  have old : ∀ b, bk aQ' = some b → bk aQ = some b ∨ wr.heap.size ≤ b := by
    intro b e
    rcases G.lies with e' | ⟨q, e', hq⟩
    · exact Or.inl (e' ▸ e)
    · rw [e'] at e; cases e; exact Or.inr (Nat.le_trans hW.size hq)
  have ia : ∀ b, bk a = some b → b < wr.heap.size := fun b hb => (M.inb.sl.blt b hb).2
  have iL : ∀ b, bk aL = some b → b < wr.heap.size := fun b hb => (M.sL.blt b hb).2
  refine ⟨(M.inb.kept hW (by simp) hne).kept G.grown (fun e => (M.dQ ib e.symm).1 rfl) ?_, (M.sL.kept hW hne).kept G.grown ?_, ?_, fun b hb => ⟨(M.dL b hb).1, (M.dL b hb).2.1, fun e => ?_⟩, fun b hb => ?_, ?_⟩
  · cases e : bk a with
    | none => exact Or.inl rfl
    | some b => exact Or.inr (fun e2 => (M.dQ b e2.symm).2 e)
  · cases e : bk aL with
    | none => exact Or.inl rfl
    | some b => exact Or.inr (fun e2 => (M.dL b e).2.2 e2.symm)
  · have := G.sl
    rw [List.length_append, List.length_singleton, ints_append]
    exact this
  · rcases old b e with e' | e'
    · exact (M.dL b hb).2.2 e'
    · have := iL b hb; omega
  · rcases old b hb with e | e
    · exact M.dQ b e
    · exact ⟨by have := M.inb.box.lt; omega, fun e2 => by have := ia b e2; omega⟩
  · exact (M.bel.grown hW hBs (fun k hk => by cases hk)).grown G.grown (Nat.le_trans hBs hW.size) (fun k hk => (M.sQ.blt k hk).1)

/-- mLast[j] = x. -/
theorem Mid.setL {gl ol : Nat} (M : Mid w wr B ib g h fs a cap (some ⟨gl, ol, none⟩) cL xs aQ cQ ys) {j : Nat} (hj : j < xs.length) (x : Int) :
    Mid w (wr.setCell ⟨gl, ol + j, none⟩ (.int .u64 x)) B ib g h fs a cap (some ⟨gl, ol, none⟩) cL (xs.set j x) aQ cQ ys := by
  have hg := grownBy_setCell wr ⟨gl, ol + j, none⟩ (.int .u64 x)
  have hd := M.dL gl rfl
  refine ⟨M.inb.kept hg (fun e => hd.1 (by simpa using e.symm)) ?_, ?_, M.sQ.kept hg ?_, M.dL, M.dQ, ?_⟩
  · cases e : bk a with
    | none => exact Or.inl rfl
    | some b => exact Or.inr (fun e2 => hd.2.1 (by rw [e]; exact e2))
  · have := M.sL.set (j := j) (by omega) (.int .u64 x)
    rw [ints_set] at this
    rw [List.length_set]
    exact this
  · cases e : bk aQ with
    | none => exact Or.inl rfl
    | some b => exact Or.inr (fun e2 => hd.2.2 (by rw [e]; exact e2))
  · exact M.bel.setCell (M.sL.blt gl rfl).1 _

/-- mSeq[j] = y. -/
theorem Mid.setQ {gq oq : Nat} (M : Mid w wr B ib g h fs a cap aL cL xs (some ⟨gq, oq, none⟩) cQ ys) {j : Nat} (hj : j < ys.length) (y : Int) :
    Mid w (wr.setCell ⟨gq, oq + j, none⟩ (.int .u64 y)) B ib g h fs a cap aL cL xs (some ⟨gq, oq, none⟩) cQ (ys.set j y) := by
  have hg := grownBy_setCell wr ⟨gq, oq + j, none⟩ (.int .u64 y)
  have hd := M.dQ gq rfl
  refine ⟨M.inb.kept hg (fun e => hd.1 (by simpa using e.symm)) ?_, M.sL.kept hg ?_, ?_, M.dL, M.dQ, ?_⟩
  · cases e : bk a with
    | none => exact Or.inl rfl
    | some b => exact Or.inr (fun e2 => hd.2 (by rw [e]; exact e2))
  · cases e : bk aL with
    | none => exact Or.inl rfl
    | some b => exact Or.inr (fun e2 => (M.dL b e).2.2 (by rw [e2]; rfl))
  · have := M.sQ.set (j := j) (by omega) (.int .u64 y)
    rw [ints_set] at this
    rw [List.length_set]
    exact this
  · exact M.bel.setCell (M.sQ.blt gq rfl).1 _

/-- mLast = mLast[:k]; mSeq = mSeq[:k]. -/
theorem Mid.taken (M : Mid w wr B ib g h fs a cap aL cL xs aQ cQ ys) {k : Nat} (h1 : k ≤ xs.length) (h2 : k ≤ ys.length) : Mid w wr B ib g h fs a cap aL cL (xs.take k) aQ cQ (ys.take k) := by
  refine ⟨M.inb, ?_, ?_, M.dL, M.dQ, M.bel⟩
  · have := M.sL.take h1
    rw [Nat.mul_one, ints_take] at this
    rw [List.length_take, Nat.min_eq_left h1]
    exact this
  · have := M.sQ.take h2
    rw [Nat.mul_one, ints_take] at this
    rw [List.length_take, Nat.min_eq_left h2]
    exact this

end

/-! ### the plain law on filters -/

/-- Is the frame kept? -/
def keepB (u g : Int) (p : Int × Int) : Bool := decide (g - u ≤ p.1)

/-- Strictly rising, each at nought or above and below g. -/
structure Up (fs : List (Int × Int)) (g : Int) : Prop where
  up : fs.Pairwise (fun p q => p.1 < q.1)
  bd : ∀ p ∈ fs, 0 ≤ p.1 ∧ p.1 < g

theorem filter_all {fs : List (Int × Int)} {u g : Int} (h : ∀ p ∈ fs, g ≤ p.1 + u) : fs.filter (keepB u g) = fs :=
  List.filter_eq_self.2 (fun p hp => by have := h p hp; simp [keepB]; omega)

/-- WHAT take KEEPS IS WHAT THE MODEL's FILTER KEEPS. -/
theorem dropWhile_filter (u g : Int) : ∀ fs : List (Int × Int), fs.Pairwise (fun p q => p.1 < q.1) → fs.dropWhile (goes u g) = fs.filter (keepB u g)
  | [], _ => rfl
  | p :: r, h => by
    obtain ⟨h1, h2⟩ := List.pairwise_cons.1 h
    by_cases hp : p.1 + u < g
    · have g1 : goes u g p = true := by simp [goes, hp]
      have g2 : keepB u g p = false := by simp [keepB]; omega
      rw [List.dropWhile_cons_of_pos g1, List.filter_cons, g2]
      exact dropWhile_filter u g r h2
    · have g1 : ¬ goes u g p = true := by simp [goes]; omega
      rw [List.dropWhile_cons_of_neg g1]
      refine (filter_all (fun q hq => ?_)).symm
      rcases List.mem_cons.1 hq with rfl | hq
      · omega
      · have := h1 q hq; omega

theorem Up.filter {fs : List (Int × Int)} {g : Int} (h : Up fs g) (f : Int × Int → Bool) : Up (fs.filter f) g :=
  ⟨h.up.filter _, fun p hp => h.bd p (List.mem_filter.1 hp).1⟩

theorem Up.mono {fs : List (Int × Int)} {g g' : Int} (h : Up fs g) (hg : g ≤ g') : Up fs g' := ⟨h.up, fun p hp => ⟨(h.bd p hp).1, by have := (h.bd p hp).2; omega⟩⟩

theorem Up.snoc {fs : List (Int × Int)} {g n s : Int} (h : Up fs g) (hg : 0 ≤ g) (hn : 0 < n) : Up (fs ++ [(g + n - 1, s)]) (g + n) := by
  refine ⟨List.pairwise_append.2 ⟨h.up, by simp, fun p hp q hq => ?_⟩, fun p hp => ?_⟩
  · simp only [List.mem_singleton] at hq
    subst hq
    have := (h.bd p hp).2
    simp only
    omega
  · rcases List.mem_append.1 hp with hp | hp
    · have := h.bd p hp; omega
    · simp only [List.mem_singleton] at hp
      subst hp
      simp only
      omega

/-- given behind a step. -/
def giv (g n : Int) : Int := if 0 < n then g + n else g

theorem Up.gvn {fs : List (Int × Int)} {g : Int} (h : Up fs g) (hg : 0 ≤ g) (s n : Int) : Up (gvn g fs s n) (giv g n) := by
  unfold Go.Proofs.Qxb6000603aMods.gvn giv
  by_cases hn : 0 < n
  · rw [if_pos hn]
    split
    · exact h.snoc hg hn
    · exact h.mono (by omega)
  · rw [if_neg hn, if_neg (fun e => hn e.2)]
    exact h

/-- The model's slices in the middle of the filter's loop: what has been kept, then the rest as it lay. -/
def filt (u g : Int) (fs : List (Int × Int)) (i : Nat) : List (Int × Int) := (fs.take i).filter (keepB u g)
def midl (u g : Int) (fs : List (Int × Int)) (i : Nat) : List (Int × Int) := filt u g fs i ++ fs.drop (filt u g fs i).length

theorem filt_le (u g : Int) (fs : List (Int × Int)) (i : Nat) : (filt u g fs i).length ≤ i ∧ (filt u g fs i).length ≤ fs.length := by
  have h1 := List.length_filter_le (keepB u g) (fs.take i)
  have h2 : (fs.take i).length = min i fs.length := List.length_take
  unfold filt
  omega

theorem midl_length (u g : Int) (fs : List (Int × Int)) (i : Nat) : (midl u g fs i).length = fs.length := by
  have := filt_le u g fs i
  simp [midl]
  omega

theorem midl_zero (u g : Int) (fs : List (Int × Int)) : midl u g fs 0 = fs := by simp [midl, filt]

theorem midl_get (u g : Int) (fs : List (Int × Int)) (i : Nat) : (midl u g fs i)[i]? = fs[i]? := by
  have := filt_le u g fs i
  unfold midl
  rw [List.getElem?_append_right this.1, List.getElem?_drop]
  congr 1
  omega

theorem filt_yes {u g : Int} {fs : List (Int × Int)} {i : Nat} {p : Int × Int} (hp : fs[i]? = some p) (hk : g - u ≤ p.1) : filt u g fs (i + 1) = filt u g fs i ++ [p] := by
  have hlt := (List.getElem?_eq_some_iff.1 hp)
  have e : fs.take (i + 1) = fs.take i ++ [p] := by rw [List.take_add_one, hp]; rfl
  unfold filt
  rw [e, List.filter_append]
  simp [keepB, hk]

theorem filt_no {u g : Int} {fs : List (Int × Int)} {i : Nat} {p : Int × Int} (hp : fs[i]? = some p) (hk : p.1 < g - u) : filt u g fs (i + 1) = filt u g fs i := by
  have e : fs.take (i + 1) = fs.take i ++ [p] := by rw [List.take_add_one, hp]; rfl
  unfold filt
  rw [e, List.filter_append]
  have : keepB u g p = false := by simp [keepB]; omega
  simp [this]

theorem midl_yes {u g : Int} {fs : List (Int × Int)} {i : Nat} {p : Int × Int} (hp : fs[i]? = some p) (hk : g - u ≤ p.1) : midl u g fs (i + 1) = (midl u g fs i).set (filt u g fs i).length p := by
  have hlt := (List.getElem?_eq_some_iff.1 hp).1
  have hl := filt_le u g fs i
  unfold midl
  rw [filt_yes hp hk, List.set_append_right _ _ (Nat.le_refl _), Nat.sub_self, List.append_assoc]
  congr 1
  have hd : fs.drop (filt u g fs i).length = fs[(filt u g fs i).length]'(by omega) :: fs.drop ((filt u g fs i).length + 1) := List.drop_eq_getElem_cons (by omega)
  rw [List.length_append, List.length_singleton, hd]
  rfl

theorem midl_no {u g : Int} {fs : List (Int × Int)} {i : Nat} {p : Int × Int} (hp : fs[i]? = some p) (hk : p.1 < g - u) : midl u g fs (i + 1) = midl u g fs i := by
  unfold midl
  rw [filt_no hp hk]

theorem filt_end (u g : Int) (fs : List (Int × Int)) : filt u g fs fs.length = fs.filter (keepB u g) := by simp [filt]

theorem midl_end (u g : Int) (fs : List (Int × Int)) : (midl u g fs fs.length).take (filt u g fs fs.length).length = fs.filter (keepB u g) := by
  unfold midl
  rw [List.take_left, filt_end]

end Go.Proofs.Qxb6000603aMods
