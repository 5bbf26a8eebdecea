/-
  FnInboxScriptMatchesModel: the walk.
-/
import Derived.Test.Qxb6000603aModsScriptLaw
import Derived.Deep.RegionWith
import Derived.Deep.DeepCutAuto
namespace Go.Proofs.Qxb6000603aMods
open Go.RowKit

set_option maxHeartbeats 400000 in
theorem bytes26_any (a0 : Option Addr) (l0 c0 : Nat) (a1 : Option Addr) (l1 c1 : Nat) (a2 : Option Addr) (l2 c2 : Nat) (w : World) (h0 : l0 ≤ maxLen) (h1 : l1 ≤ maxLen) (h2 : l2 ≤ maxLen) :
    Calls Trym.prog 26 #[.slice a0 l0 c0, .slice a1 l1 c1, .slice a2 l2 c2] w fun e w' => RetBool e ∧ w = w' := by
  unfold maxLen at h0 h1 h2
  go_enter Trym.func26, Trym.ntmps26
  go_wp2
  all_goals (go_ret; exact ⟨RetBool.mk _, rfl⟩)

/-- The inbox and the model agree: vh, vL, vQ: what the slots 'handled', 'mLast', 'mSeq' hold. -/
def Ag (w wx : World) (B ib : Nat) (g h : Int) (fs : List (Int × Int)) (vh vL vQ : Value) : Prop :=
  ∃ a cap aL cL aQ cQ, vh = .int .u64 h ∧ vL = .slice aL fs.length cL ∧ vQ = .slice aQ fs.length cQ ∧ Mid w wx B ib g h fs a cap aL cL (fs.map Prod.fst) aQ cQ (fs.map Prod.snd)

/-- Does the step take? -/
def tkB (u g : Int) : Bool := decide (0 ≤ u ∧ u ≤ g)
/-- The frames behind the step. -/
def tkn (u g : Int) (fs : List (Int × Int)) : List (Int × Int) := if tkB u g = true then fs.filter (keepB u g) else fs

/-- What the walk reads and writes of a slice of the model's. -/
theorem Sl.at {w : World} {B n cap : Nat} {a : Option Addr} {xs : List Int} (h : Sl w B 1 a n cap (ints xs)) {q kp : Nat} {x : Int} (hx : xs[q]? = some x) (hk : kp ≤ q) :
    ∃ gl ol, a = some ⟨gl, ol, none⟩ ∧ w.cell? ⟨gl, ol + q, none⟩ = some (.int .u64 x) ∧ (∃ v, w.cell? ⟨gl, ol + kp, none⟩ = some v) ∧ w.frozen? ⟨gl, ol + kp, none⟩ = false := by
  have hlen : (ints xs).length = n * 1 := h.1
  rw [ints_length] at hlen
  have hq : q < xs.length := (List.getElem?_eq_some_iff.1 hx).1
  rcases h.2 with ⟨_, h0, _⟩ | ⟨gl, ol, rfl, _, _, hn, _, h3, h4⟩
  · omega
  · have h4' := h4 kp (by omega)
    exact ⟨gl, ol, rfl, h3 q _ (ints_get hx), Option.isSome_iff_exists.1 h4'.1, h4'.2⟩

theorem Sl.room {w : World} {B n cap : Nat} {a : Option Addr} {vs : List Value} (h : Sl w B 1 a n cap vs) : n ≤ cap := by
  rcases h.2 with ⟨_, h0, h1⟩ | ⟨_, _, _, _, _, h0, _⟩ <;> omega

theorem frameLast_int {w : World} {B ib : Nat} {g h : Int} {a : Option Addr} {cap : Nat} {fs : List (Int × Int)} (I : Inbox w B ib g h a cap fs) {j : Nat} {p : Int × Int} (hj : fs[j]? = some p) (i : Int) (hi : i = (j : Int)) :
    Calls Trym.prog 21 #[.pointer (some ⟨ib, 0, none⟩), .int .i64 i] w fun e w' => e = .returned (.int .u64 p.1) ∧ w = w' := by
  subst hi
  exact frameLast_any I hj

theorem Up.prev {fs : List (Int × Int)} {g : Int} (h : Up fs g) {i j : Nat} (hij : i < j) {p q : Int × Int} (hp : fs[i]? = some p) (hq : fs[j]? = some q) : p.1 < q.1 := by
  obtain ⟨hi, rfl⟩ := List.getElem?_eq_some_iff.1 hp
  obtain ⟨hj, rfl⟩ := List.getElem?_eq_some_iff.1 hq
  exact List.pairwise_iff_getElem.1 h.up i j hi hj hij

theorem Up.tkn {fs : List (Int × Int)} {g : Int} (h : Up fs g) (u : Int) : Up (tkn u g fs) g ∧ (tkn u g fs).length ≤ fs.length := by
  unfold Go.Proofs.Qxb6000603aMods.tkn
  split
  · exact ⟨h.filter _, List.length_filter_le _ _⟩
  · exact ⟨h, Nat.le_refl _⟩

/-- .. behind k steps. -/
def Sc (w wx : World) (B ib k : Nat) (vg vh vL vQ : Value) : Prop :=
  ∃ g h fs, vg = .int .u64 g ∧ Ag w wx B ib g h fs vh vL vQ ∧ Up fs g ∧ 0 ≤ g ∧ g ≤ k * 1099511627776 ∧ fs.length ≤ k

set_option maxRecDepth 100000 in
set_option maxHeartbeats 4000000 in
theorem f8_any (a0 : Option Addr) (l0 c0 : Nat) (ad0 : Nat → Addr) (sq : Nat → Int) (a1 : Option Addr) (l1 c1 : Nat) (ad1 : Nat → Addr) (ns : Nat → Int) (a2 : Option Addr) (l2 c2 : Nat) (ad2 : Nat → Addr) (un : Nat → Int) (w : World)
    (hr0 : Row 33 w.heap.size w a0 l0 c0 ad0 (fun k => .int .u64 (sq k))) (hr1 : Row 43 w.heap.size w a1 l1 c1 ad1 (fun k => .int .i64 (ns k))) (hr2 : Row 43 w.heap.size w a2 l2 c2 ad2 (fun k => .int .i64 (un k)))
    (hns : ∀ k, k < l1 → -9223372036854775808 ≤ ns k ∧ ns k ≤ 9223372036854775807) (hun : ∀ k, k < l2 → -9223372036854775808 ≤ un k ∧ un k ≤ 9223372036854775807) :
    Calls Trym.prog 8 #[.slice a0 l0 c0, .slice a1 l1 c1, .slice a2 l2 c2] w fun e w' => e = .returned (.bool true) ∧ Below w.heap.size w w' := by
  have HR0 : Hid (Row 33 w.heap.size w a0 l0 c0 ad0 (fun k => .int .u64 (sq k))) := hr0
  have HR1 : Hid (Row 43 w.heap.size w a1 l1 c1 ad1 (fun k => .int .i64 (ns k))) := hr1
  have HR2 : Hid (Row 43 w.heap.size w a2 l2 c2 ad2 (fun k => .int .i64 (un k))) := hr2
  have HNS : Hid (∀ k, k < l1 → -9223372036854775808 ≤ ns k ∧ ns k ≤ 9223372036854775807) := hns
  have HUN : Hid (∀ k, k < l2 → -9223372036854775808 ≤ un k ∧ un k ≤ 9223372036854775807) := hun
  have hl0 := hr0.len_le
  have hl1 := hr1.len_le
  have hl2 := hr2.len_le
  clear hr0 hr1 hr2 hns hun
  unfold maxLen at hl0 hl1 hl2
  go_enter Trym.func8, Trym.ntmps8
  go_wp2_with fail
  refine (bytes26_any a0 l0 c0 a1 l1 c1 a2 l2 c2 w HR0.out.len_le HR1.out.len_le HR2.out.len_le).mono ?_
  rintro e w' ⟨⟨b, rfl⟩, rfl⟩
  cases b with
  | false =>
    go_wp2
    go_ret
    exact ⟨rfl, Below.refl _ _⟩
  | true =>
    by_cases q0 : (4096 : Int) < l0
    · go_wp2
      go_ret
      exact ⟨rfl, Below.refl _ _⟩
    by_cases q1 : (4096 : Int) < l1
    · go_wp2
      go_ret
      exact ⟨rfl, Below.refl _ _⟩
    by_cases q2 : (4096 : Int) < l2
    · go_wp2
      go_ret
      exact ⟨rfl, Below.refl _ _⟩
    obtain ⟨m, hm⟩ : ∃ m, m = min l0 (min l1 l2) := ⟨_, rfl⟩
    have HEM : Hid (min (l0 : Int) (min (l1 : Int) (l2 : Int)) = (m : Int)) := show _ = _ by omega
    have hm0 : m ≤ l0 := by omega
    have hm1 : m ≤ l1 := by omega
    have hm2 : m ≤ l2 := by omega
    clear hm
    go_wp2_with fail
    refine (min2_any _ _ _).mono ?_
    rintro e w' ⟨rfl, rfl⟩
    go_wp2_with fail
    refine (min2_any _ _ _).mono ?_
    rintro e w' ⟨rfl, rfl⟩
    rw [HEM.out]
    go_wp2
    go_loop [8] (fun i => ∃ k : Nat, k ≤ m ∧ i = .int .i64 k ∧ ∀ j, j < k → ns j ≤ 1099511627776) (fun i => m - (intOf i).toNat)
    case atStart => exact ⟨0, Nat.zero_le _, rfl, fun j hj => absurd hj (Nat.not_lt_zero j)⟩
    case round =>
      obtain ⟨k, hk, rfl, hle⟩ := hrel
      have HLE : Hid (∀ j, j < k → ns j ≤ 1099511627776) := hle
      clear hle
      by_cases hlt : k < m
      · have i1 := fun W => HR1.out.idx k W (by omega)
        have g1 := HR1.out.cell k (by omega)
        by_cases t1 : (1099511627776 : Int) < ns k
        · go_wp2
          go_ret
          exact ⟨rfl, Below.refl _ _⟩
        · have t1' : ns k ≤ 1099511627776 := by omega
          clear t1
          go_wp2
          go_round
          case rel =>
            refine ⟨k + 1, by omega, by go_num, fun j hj => ?_⟩
            rcases Nat.lt_or_ge j k with h | h
            · exact HLE.out j h
            · rw [show j = k by omega]; exact t1'
          case measure => simp [intOf]; omega
      · have : k = m := by omega
        subst this
        obtain ⟨ib, hib⟩ : ∃ ib, ib = w.heap.size := ⟨_, rfl⟩
        have HIB : Hid (ib = w.heap.size) := hib
        clear hib
        go_wp2_with fail
        refine (newInbox_to 0 0 w w.heap.size ib (Nat.le_refl _) HIB.out).mono ?_
        rintro e w1 ⟨rfl, hI, hb1⟩
        have HS : Hid (Sc w w1 w.heap.size ib 0 (.int .u64 0) (.int .u64 0) (.slice none 0 0) (.slice none 0 0)) := by
          refine ⟨0, 0, [], rfl, ⟨none, 0, none, 0, none, 0, rfl, rfl, rfl, hI, Sl.nil _ _ _, Sl.nil _ _ _, ?_, ?_, hb1⟩, ⟨by simp, by simp⟩, by omega, by omega, by simp⟩
          · intro b hb; cases hb
          · intro b hb; cases hb
        clear hI hb1 HIB
        go_wp2
        go_loopw [10, 11, 12, 13, 14] (fun vg vh vL vQ i wr => ∃ j : Nat, j ≤ k ∧ i = .int .i64 j ∧ Sc w wr w.heap.size ib j vg vh vL vQ) (fun _ _ _ _ i _ => k - (intOf i).toNat)
        case atStart => exact ⟨0, Nat.zero_le _, rfl, HS.out⟩
        case round =>
          obtain ⟨j, hj, rfl, g, h, fs, rfl, ⟨a, cap, aL, cL, aQ, cQ, rfl, rfl, rfl, M⟩, hUp, hg0, hgj, hfl⟩ := hrel
          clear HS
          by_cases hjk : j < k
          · have i0 := fun W => HR0.out.idx j W (by omega)
            have i1 := fun W => HR1.out.idx j W (by omega)
            have i2 := fun W => HR2.out.idx j W (by omega)
            have e0 := (HR0.out.below M.bel).cell j (by omega)
            have e1 := (HR1.out.below M.bel).cell j (by omega)
            obtain ⟨nb0, _⟩ := HNS.out j (by omega)
            have nb1 := HLE.out j (by omega)
            obtain ⟨ub0, ub1⟩ := HUN.out j (by omega)
            have hjk' : (j : Int) < (k : Int) := by omega
            have HG := fun (W : World) (hb : Below w.heap.size w W) => (HR2.out.below hb).cell j (by omega)
            have HE2 : Hid (∀ W, Below w.heap.size w W → W.cell? (ad2 j) = some (.int .i64 (un j))) := HG
            clear HG
            generalize sq j = s at e0
            generalize ns j = n at e1 nb0 nb1
            generalize un j = u at HE2 ub0 ub1
            have HU : Hid (Up fs g) := hUp
            clear hUp
            go_wp2_with fail
            refine (ZZGiving_any M.inb s n hg0 (by omega) (by omega)).mono ?_
            rintro e w1 ⟨rfl, hU1⟩
            obtain ⟨a1', cap1, M1⟩ := M.upd hU1
            have HM1 : Hid (Mid w w1 w.heap.size ib g (hnd h s) (gvn g fs s n) a1' cap1 aL cL (fs.map Prod.fst) aQ cQ (fs.map Prod.snd)) := M1
            clear M hU1 M1 e0 e1
            go_upto_if 79 with fail
            go_cut [11, 12, 13] (fun vh vL vQ wx => Ag w wx w.heap.size ib g (hnd h s) (gvn g fs s n) vh vL vQ)
            case first =>
              by_cases hz : s = 0
              · have hzb : (s != 0) = false := by simp [hz]
                have HA : Hid (Ag w w1 w.heap.size ib g (hnd h s) (gvn g fs s n) (.int .u64 h) (.slice aL fs.length cL) (.slice aQ fs.length cQ)) := by
                  have M1 := HM1.out
                  rw [show hnd h s = h by simp [hnd, hz], show gvn g fs s n = fs by simp [gvn, hz]] at M1 ⊢
                  exact ⟨a1', cap1, aL, cL, aQ, cQ, rfl, rfl, rfl, M1⟩
                clear hz
                go_wp2_with fail
                go_meet
                case rel => exact HA.out
              have hzb : (s != 0) = true := by simp [hz]
              by_cases hn : 0 < n
              · obtain ⟨i0', hi, hz0, hz1, hz2⟩ := info_parts info32
                have hB1 : w.heap.size ≤ w1.heap.size := Nat.le_trans HM1.out.inb.box.lo (Nat.le_of_lt HM1.out.inb.box.lt)
                have HSL : Hid (∀ o, Sl (w1.alloc o) w.heap.size 1 aL fs.length cL (ints (fs.map Prod.fst))) := fun o => by
                  have := HM1.out.sL.alloc o
                  rw [List.length_map] at this
                  exact this
                have HSQ : Hid (∀ aL' cL' w2, Grew (w1.alloc (.cells #[.int .u64 (g + n - 1)] 32)) w2 w.heap.size 1 aL aL' (fs.length + 1) cL' (ints (fs.map Prod.fst) ++ [.int .u64 (g + n - 1)]) →
                    w.heap.size ≤ w2.heap.size ∧ ∀ o, Sl (w2.alloc o) w.heap.size 1 aQ fs.length cQ (ints (fs.map Prod.snd))) := fun aL' cL' w2 G => by
                  have M2 := HM1.out.grewL (World.grownBy_alloc w1 _ none) (x := g + n - 1) (by rw [List.length_map]; exact G)
                  refine ⟨Nat.le_trans M2.inb.box.lo (Nat.le_of_lt M2.inb.box.lt), fun o => ?_⟩
                  have := M2.sQ.alloc o
                  rw [List.length_map] at this
                  exact this
                have HFI : Hid (∀ aL' cL' w2, Grew (w1.alloc (.cells #[.int .u64 (g + n - 1)] 32)) w2 w.heap.size 1 aL aL' (fs.length + 1) cL' (ints (fs.map Prod.fst) ++ [.int .u64 (g + n - 1)]) →
                    ∀ aQ' cQ' w3, Grew (w2.alloc (.cells #[.int .u64 s] 32)) w3 w.heap.size 1 aQ aQ' (fs.length + 1) cQ' (ints (fs.map Prod.snd) ++ [.int .u64 s]) →
                    Ag w w3 w.heap.size ib g (hnd h s) (gvn g fs s n) (.int .u64 s) (.slice aL' (fs.length + 1) cL') (.slice aQ' (fs.length + 1) cQ')) := fun aL' cL' w2 G aQ' cQ' w3 G2 => by
                  have M2 := HM1.out.grewL (World.grownBy_alloc w1 _ none) (x := g + n - 1) (by rw [List.length_map]; exact G)
                  have M3 := M2.grewQ (World.grownBy_alloc w2 _ none) (y := s) (by rw [List.length_map]; exact G2)
                  rw [show hnd h s = s by simp [hnd, hz], show gvn g fs s n = fs ++ [(g + n - 1, s)] by simp [gvn, hz, hn]] at M3 ⊢
                  refine ⟨a1', cap1, aL', cL', aQ', cQ', rfl, by simp, by simp, ?_⟩
                  rw [List.map_append, List.map_append]
                  exact M3
                clear hz HM1 HU
                go_wp2_with (first | (at_builtin; refine wpList_append_sl rfl (.tmp 83) (.tmp 89) 33 rfl 32 i0' _ 8 Trym.underlying33 hi hz0 hz1 hz2 rfl (by decide) rfl (HSL.out _) (by simp; omega) ⟨w1.heap.size, 0, none⟩ 1 [.int .u64 (g + n - 1)] rfl rfl (new_cells w1 #[.int .u64 (g + n - 1)] 32) (by intro u hu; simp at hu; subst hu; rfl) (by unfold maxLen; omega) (by omega) ?_))
                intro aL' cL' w2 G
                obtain ⟨hB2, hS2⟩ := HSQ.out aL' cL' w2 G
                have HS2 : Hid (∀ o, Sl (w2.alloc o) w.heap.size 1 aQ fs.length cQ (ints (fs.map Prod.snd))) := hS2
                have HF2 := HFI.out aL' cL' w2 G
                have HFF : Hid _ := HF2
                clear G hS2 HF2 HSL HSQ HFI
                go_wp2_with (first | (at_builtin; refine wpList_append_sl rfl (.tmp 91) (.tmp 93) 33 rfl 32 i0' _ 8 Trym.underlying33 hi hz0 hz1 hz2 rfl (by decide) rfl (HS2.out _) (by simp; omega) ⟨w2.heap.size, 0, none⟩ 1 [.int .u64 s] rfl rfl (new_cells w2 #[.int .u64 s] 32) (by intro u hu; simp at hu; subst hu; rfl) (by unfold maxLen; omega) (by omega) ?_))
                intro aQ' cQ' w3 G2
                have HA := HFF.out aQ' cQ' w3 G2
                clear G2 HFF HS2
                go_wp2_with fail
                go_meet
                case rel => exact HA
              · have HA : Hid (Ag w w1 w.heap.size ib g (hnd h s) (gvn g fs s n) (.int .u64 s) (.slice aL fs.length cL) (.slice aQ fs.length cQ)) := by
                  have M1 := HM1.out
                  rw [show hnd h s = s by simp [hnd, hz], show gvn g fs s n = fs by simp [gvn, hn]] at M1 ⊢
                  exact ⟨a1', cap1, aL, cL, aQ, cQ, rfl, rfl, rfl, M1⟩
                clear hz
                go_wp2_with fail
                go_meet
                case rel => exact HA.out
            case rest =>
              have HU1 : Hid (Up (gvn g fs s n) (giv g n)) := HU.out.gvn hg0 s n
              have hl1' : (gvn g fs s n).length ≤ j + 1 := by
                unfold gvn
                split
                · rw [List.length_append, List.length_singleton]; omega
                · omega
              clear HU HM1
              generalize gvn g fs s n = fs1 at hcut HU1 hl1'
              generalize hnd h s = h1 at hcut
              obtain ⟨a1x, cap1x, aL1, cL1, aQ1, cQ1, rfl, rfl, rfl, M2⟩ := hcut
              have HM2 : Hid (Mid w wc w.heap.size ib g h1 fs1 a1x cap1x aL1 cL1 (fs1.map Prod.fst) aQ1 cQ1 (fs1.map Prod.snd)) := M2
              clear M2
              go_upto_if 96 with fail
              go_cut [10] (fun vg wx => vg = .int .u64 (giv g n) ∧ ∃ a' cap', Mid w wx w.heap.size ib (giv g n) h1 fs1 a' cap' aL1 cL1 (fs1.map Prod.fst) aQ1 cQ1 (fs1.map Prod.snd))
              case first =>
                by_cases hn : 0 < n
                · have EG : Hid (giv g n = g + n) := by show _ = _; simp [giv, hn]
                  go_wp2_with fail
                  refine (addGiven_any HM2.out.inb n hg0 (by omega) (by omega)).mono ?_
                  rintro e w3 ⟨rfl, hU3⟩
                  have R := HM2.out.upd hU3
                  have HRR : Hid _ := R
                  clear hU3 R
                  go_wp2_with fail
                  go_meet
                  case rel => rw [EG.out]; exact ⟨rfl, HRR.out⟩
                · have EG : Hid (giv g n = g) := by show _ = _; simp [giv, hn]
                  go_wp2_with fail
                  go_meet
                  case rel => rw [EG.out]; exact ⟨rfl, a1x, cap1x, HM2.out⟩
              case rest =>
                obtain ⟨rfl, a2x, cap2x, M3⟩ := hcut
                have hgv0 : 0 ≤ giv g n := by unfold giv; split <;> omega
                have hgv1 : giv g n ≤ ((j + 1 : Nat) : Int) * 1099511627776 := by unfold giv; split <;> omega
                generalize giv g n = g1 at M3 HU1 hgv0 hgv1 ⊢
                have e2 := HE2.out wc M3.bel
                have HM3 : Hid (∃ a' cap', Mid w wc w.heap.size ib g1 h1 fs1 a' cap' aL1 cL1 (fs1.map Prod.fst) aQ1 cQ1 (fs1.map Prod.snd)) := ⟨a2x, cap2x, M3⟩
                clear M3 HM2
                go_upto_region 29 with fail
                go_cut [116] (fun t wx => t = .bool (tkB u g1) ∧ ∃ a' cap', Mid w wx w.heap.size ib g1 h1 fs1 a' cap' aL1 cL1 (fs1.map Prod.fst) aQ1 cQ1 (fs1.map Prod.snd))
                case first =>
                  by_cases hu : 0 ≤ u
                  · by_cases hug : u ≤ g1
                    · have TB : Hid (tkB u g1 = true) := by show _ = _; simp [tkB, hu, hug]
                      go_wp2_with fail
                      go_meet
                      case rel => rw [TB.out]; exact ⟨rfl, HM3.out⟩
                    · have TB : Hid (tkB u g1 = false) := by show _ = _; simp [tkB, hug]
                      go_wp2_with fail
                      go_meet
                      case rel => rw [TB.out]; exact ⟨rfl, HM3.out⟩
                  · have TB : Hid (tkB u g1 = false) := by show _ = _; simp [tkB, hu]
                    go_wp2_with fail
                    go_meet
                    case rel => rw [TB.out]; exact ⟨rfl, HM3.out⟩
                case rest =>
                  obtain ⟨rfl, a3x, cap3x, M3⟩ := hcut
                  clear HM3 e2 HE2
                  go_upto_if 116 with fail
                  go_cut [12, 13] (fun vL vQ wx => Ag w wx w.heap.size ib g1 h1 (tkn u g1 fs1) (.int .u64 h1) vL vQ)
                  case first =>
                    by_cases ht : tkB u g1 = true
                    · obtain ⟨hu0, hug⟩ : 0 ≤ u ∧ u ≤ g1 := by simpa [tkB] using ht
                      have HBD : Hid (∀ p ∈ fs1, 0 ≤ p.1 ∧ p.1 + u ≤ 18446744073709551615) := fun p hp => by have := HU1.out.bd p hp; omega
                      have HTK : Hid (tkn u g1 fs1 = fs1.filter (keepB u g1)) := if_pos ht
                      rw [ht]
                      clear ht
                      go_wp2_with fail
                      refine (ZZTake_any M3.inb u hu0 ub1 HBD.out (by omega)).mono ?_
                      rintro e w4 ⟨rfl, hT⟩
                      obtain ⟨a4, cap4, M4⟩ := M3.upd hT.upd
                      rw [dropWhile_filter u g1 fs1 HU1.out.up] at M4
                      clear M3 hT HBD
                      go_wp2
                      go_loopw [19, 20] (fun kv i wr => ∃ q : Nat, q ≤ fs1.length ∧ i = .int .i64 q ∧ kv = .int .i64 ((filt u g1 fs1 q).length : Nat) ∧ Mid w wr w.heap.size ib g1 h1 (fs1.filter (keepB u g1)) a4 cap4 aL1 cL1 ((midl u g1 fs1 q).map Prod.fst) aQ1 cQ1 ((midl u g1 fs1 q).map Prod.snd)) (fun _ i _ => fs1.length - (intOf i).toNat)
                      case atStart => exact ⟨0, Nat.zero_le _, rfl, rfl, by rw [midl_zero]; exact M4⟩
                      case round =>
                        obtain ⟨q, hq, rfl, rfl, M⟩ := hrel
                        clear M4
                        by_cases hqn : q < fs1.length
                        · obtain ⟨p, hp⟩ : ∃ p, fs1[q]? = some p := ⟨_, List.getElem?_eq_getElem hqn⟩
                          obtain ⟨pl, ps⟩ := p
                          obtain ⟨kp, hkp⟩ : ∃ kp, (filt u g1 fs1 q).length = kp := ⟨_, rfl⟩
                          have hkq : kp ≤ q := by rw [← hkp]; exact (filt_le u g1 fs1 q).1
                          have hml : (midl u g1 fs1 q).length = fs1.length := midl_length u g1 fs1 q
                          have hmg : (midl u g1 fs1 q)[q]? = some (pl, ps) := by rw [midl_get]; exact hp
                          have hbl := HU1.out.bd (pl, ps) (List.mem_of_getElem? hp)
                          obtain ⟨hbl0, hbl1⟩ := hbl
                          simp only at hbl0 hbl1
                          have hxL : ((midl u g1 fs1 q).map Prod.fst)[q]? = some pl := by rw [List.getElem?_map, hmg]; rfl
                          have hxQ : ((midl u g1 fs1 q).map Prod.snd)[q]? = some ps := by rw [List.getElem?_map, hmg]; rfl
                          obtain ⟨gl, ol, rfl, cL0, ⟨vL0, cL1k⟩, fL1k⟩ := M.sL.at hxL hkq
                          have HML := M.setL (j := kp) (by rw [List.length_map]; omega) pl
                          obtain ⟨gq, oq, rfl, cQ0, ⟨vQ0, cQ1k⟩, fQ1k⟩ := HML.sQ.at hxQ hkq
                          have HMQ := HML.setQ (j := kp) (by rw [List.length_map]; omega) ps
                          rw [hkp]
                          have HKP : Hid ((filt u g1 fs1 q).length = kp) := hkp
                          have HP : Hid (fs1[q]? = some (pl, ps)) := hp
                          have hqn' : (q : Int) < (fs1.length : Int) := by omega
                          have hkn' : (kp : Int) < (fs1.length : Int) := by omega
                          clear hkp hp hml hmg hxL hxQ HML
                          by_cases hk : g1 - u ≤ pl
                          · have R : Mid w ((wr.setCell ⟨gl, ol + kp, none⟩ (.int .u64 pl)).setCell ⟨gq, oq + kp, none⟩ (.int .u64 ps)) w.heap.size ib g1 h1 (fs1.filter (keepB u g1)) a4 cap4 (some ⟨gl, ol, none⟩) cL1 ((midl u g1 fs1 (q + 1)).map Prod.fst) (some ⟨gq, oq, none⟩) cQ1 ((midl u g1 fs1 (q + 1)).map Prod.snd) := by
                              rw [midl_yes HP.out hk, HKP.out, List.map_set, List.map_set]
                              exact HMQ
                            have HR : Hid _ := R
                            have HFL : Hid ((filt u g1 fs1 (q + 1)).length = kp + 1) := by
                              show _ = _
                              rw [filt_yes HP.out hk, List.length_append, HKP.out]; rfl
                            clear R M HMQ
                            go_wp2
                            go_roundw
                            case rel => exact ⟨q + 1, by omega, by go_num, by rw [HFL.out]; go_num, HR.out⟩
                            case measure => simp [intOf]; omega
                          · have hk' : pl < g1 - u := by omega
                            have R : Mid w wr w.heap.size ib g1 h1 (fs1.filter (keepB u g1)) a4 cap4 (some ⟨gl, ol, none⟩) cL1 ((midl u g1 fs1 (q + 1)).map Prod.fst) (some ⟨gq, oq, none⟩) cQ1 ((midl u g1 fs1 (q + 1)).map Prod.snd) := by
                              rw [midl_no HP.out hk']
                              exact M
                            have HR : Hid _ := R
                            have HFL : Hid ((filt u g1 fs1 (q + 1)).length = kp) := by
                              show _ = _
                              rw [filt_no HP.out hk', HKP.out]
                            clear R M HMQ hk
                            go_wp2
                            go_roundw
                            case rel => exact ⟨q + 1, by omega, by go_num, by rw [HFL.out], HR.out⟩
                            case measure => simp [intOf]; omega
                        · have : q = fs1.length := by omega
                          subst this
                          have hfl := (filt_le u g1 fs1 fs1.length).2
                          have hrL : (filt u g1 fs1 fs1.length).length ≤ cL1 := Nat.le_trans hfl (by have := M.sL.room; rw [List.length_map, midl_length] at this; exact this)
                          have hrQ : (filt u g1 fs1 fs1.length).length ≤ cQ1 := Nat.le_trans hfl (by have := M.sQ.room; rw [List.length_map, midl_length] at this; exact this)
                          have MT := M.taken (k := (filt u g1 fs1 fs1.length).length) (by rw [List.length_map, midl_length]; exact hfl) (by rw [List.length_map, midl_length]; exact hfl)
                          rw [← List.map_take, ← List.map_take, midl_end] at MT
                          have hfe : (fs1.filter (keepB u g1)).length = (filt u g1 fs1 fs1.length).length := by rw [filt_end]
                          have HFE : Hid ((fs1.filter (keepB u g1)).length = (filt u g1 fs1 fs1.length).length) := hfe
                          have HMT : Hid _ := MT
                          clear MT hfe M
                          generalize (filt u g1 fs1 fs1.length).length = kp at HFE hrL hrQ hfl ⊢
                          go_wp2_with fail
                          go_meet
                          case rel => rw [HTK.out]; exact ⟨a4, cap4, aL1, cL1, aQ1, cQ1, rfl, by rw [HFE.out], by rw [HFE.out], HMT.out⟩
                    · have htf : tkB u g1 = false := by simpa using ht
                      have HTK : Hid (tkn u g1 fs1 = fs1) := if_neg ht
                      have HMM : Hid _ := M3
                      rw [htf]
                      clear ht htf M3
                      go_wp2_with fail
                      go_meet
                      case rel => rw [HTK.out]; exact ⟨a3x, cap3x, aL1, cL1, aQ1, cQ1, rfl, rfl, rfl, HMM.out⟩
                  case rest =>
                    have HU2 := HU1.out.tkn u
                    have hl2'' : (tkn u g1 fs1).length ≤ j + 1 := Nat.le_trans HU2.2 hl1'
                    have HU3 : Hid (Up (tkn u g1 fs1) g1) := HU2.1
                    clear HU1 HU2 M3 hl1'
                    generalize tkn u g1 fs1 = fs2 at hcut HU3 hl2''
                    obtain ⟨a5, cap5, aL5, cL5, aQ5, cQ5, _, rfl, rfl, M5⟩ := hcut
                    have HM5 : Hid (∀ W, Drawn wc W → Mid w W w.heap.size ib g1 h1 fs2 a5 cap5 aL5 cL5 (fs2.map Prod.fst) aQ5 cQ5 (fs2.map Prod.snd)) := fun W hd => M5.drawn hd
                    clear M5
                    go_wp2_with fail
                    refine (given_any (HM5.out wc (Drawn.refl wc)).inb).mono ?_
                    rintro e w' ⟨rfl, rfl⟩
                    go_wp2_with fail
                    refine (handled_any (HM5.out wc (Drawn.refl wc)).inb).mono ?_
                    rintro e w' ⟨rfl, rfl⟩
                    go_wp2_with fail
                    refine (frames_any (HM5.out wc (Drawn.refl wc)).inb).mono ?_
                    rintro e w' ⟨rfl, rfl⟩
                    go_wp2
                    go_loopw [22] (fun i wq => ∃ q : Nat, q ≤ fs2.length ∧ i = .int .i64 q ∧ Drawn wc wq) (fun i _ => fs2.length - (intOf i).toNat)
                    case atStart => exact ⟨0, Nat.zero_le _, rfl, Drawn.refl wc⟩
                    case round =>
                      obtain ⟨q, hq, rfl, hD⟩ := hrel
                      have HD : Hid (Drawn wc wr) := hD
                      clear hD
                      by_cases hqn : q < fs2.length
                      · obtain ⟨p, hp⟩ : ∃ p, fs2[q]? = some p := ⟨_, List.getElem?_eq_getElem hqn⟩
                        obtain ⟨pl, ps⟩ := p
                        obtain ⟨hb0, hb1⟩ := HU3.out.bd (pl, ps) (List.mem_of_getElem? hp)
                        simp only at hb0 hb1
                        have HMr := HM5.out wr HD.out
                        have hxL : (fs2.map Prod.fst)[q]? = some pl := by rw [List.getElem?_map, hp]; rfl
                        have hxQ : (fs2.map Prod.snd)[q]? = some ps := by rw [List.getElem?_map, hp]; rfl
                        obtain ⟨gl, ol, rfl, cL0, _, _⟩ := HMr.sL.at hxL (Nat.le_refl q)
                        obtain ⟨gq, oq, rfl, cQ0, _, _⟩ := HMr.sQ.at hxQ (Nat.le_refl q)
                        have hqn' : (q : Int) < (fs2.length : Int) := by omega
                        have HP : Hid (fs2[q]? = some (pl, ps)) := hp
                        clear hp hxL hxQ HMr
                        go_wp2_with fail
                        refine (frameLast_any (HM5.out wr HD.out).inb HP.out).mono ?_
                        rintro e w' ⟨rfl, rfl⟩
                        go_wp2
                        go_quiet (first | (go_at_call 22; exact quiet_eq (frameSeq_any (HM5.out _ (HD.out.drewN _)).inb HP.out)))
                        by_cases hq0 : q = 0
                        · have hd : decide ((0 : Int) < (q : Int)) = false := by simp [hq0]
                          have hdn : decide (0 < q) = false := by simp [hq0]
                          go_wp2
                          go_roundw
                          case rel => exact ⟨q + 1, by omega, by go_num, HD.out.drewN _⟩
                          case measure => simp [intOf]; omega
                        · have hz0 : (0 : Int) < (q : Int) := by omega
                          have hzn : 0 < q := by omega
                          obtain ⟨pp, hpp⟩ : ∃ pp, fs2[q - 1]? = some pp := ⟨_, List.getElem?_eq_getElem (by omega)⟩
                          have hlt2 : pp.1 < pl := HU3.out.prev (by omega) hpp HP.out
                          have HPP : Hid (fs2[q - 1]? = some pp) := hpp
                          clear hpp
                          go_wp2_with fail
                          refine (frameLast_int (HM5.out _ (HD.out.drewN _)).inb HPP.out _ (by omega)).mono ?_
                          rintro e w' ⟨rfl, rfl⟩
                          go_wp2
                          go_roundw
                          case rel => exact ⟨q + 1, by omega, by go_num, HD.out.drewN _⟩
                          case measure => simp [intOf]; omega
                      · have HSc : Hid (Sc w wr w.heap.size ib (j + 1) (.int .u64 g1) (.int .u64 h1) (.slice aL5 fs2.length cL5) (.slice aQ5 fs2.length cQ5)) :=
                          ⟨g1, h1, fs2, rfl, ⟨a5, cap5, aL5, cL5, aQ5, cQ5, rfl, rfl, rfl, HM5.out wr HD.out⟩, HU3.out, hgv0, hgv1, hl2''⟩
                        go_wp2
                        go_roundw
                        case rel => exact ⟨j + 1, by omega, by go_num, HSc.out⟩
                        case measure => simp [intOf]; omega
          · have HB : Hid (Below w.heap.size w wr) := M.bel
            clear M hUp hgj hfl
            go_wp2
            go_ret
            exact ⟨rfl, HB.out⟩

end Go.Proofs.Qxb6000603aMods
