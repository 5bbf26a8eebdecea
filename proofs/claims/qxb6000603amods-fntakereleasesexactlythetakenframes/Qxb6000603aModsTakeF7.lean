/-
  FnTakeReleasesExactlyTheTakenFrames: the walk.
-/
import Derived.Test.Qxb6000603aModsTakePlain
import Derived.Deep.RegionWith
namespace Go.Proofs.Qxb6000603aMods
open Go.RowKit

theorem Drawn.below {w w' : World} (h : Drawn w w') (B : Nat) : Below B w w' := ⟨h.os, h.tape, h.output, by rw [h.heap]; exact Nat.le_refl _, fun k _ => by rw [h.heap]⟩

theorem newInbox_at (g h : Int) (w : World) (B ib : Nat) (hB : B ≤ w.heap.size) (hib : ib = w.heap.size) :
    Calls Trym.prog 17 #[.int .u64 g, .int .u64 h] w fun e w' => e = .returned (.pointer (some ⟨ib, 0, none⟩)) ∧ Inbox w' B ib g h none 0 [] ∧ Below w.heap.size w w' := by
  subst hib
  exact newInbox_any g h w B hB

theorem quiet_of_eq {P : Program} {f : FuncId} {args : Array Value} {w : World} {n : Nat} {v : Value} (h : Calls P f args (w.drewN n) fun e w' => e = .returned v ∧ w.drewN n = w') :
    Calls P f args (w.drewN n) fun e w'' => e = .returned v ∧ ∃ m, w'' = w.drewN m := h.mono fun _ _ ⟨he, hm⟩ => ⟨he, n, hm.symm⟩

theorem Inbox.drawn {w w' : World} {B ib : Nat} {g h : Int} {a : Option Addr} {cap : Nat} {fs : List (Int × Int)} (I : Inbox w B ib g h a cap fs) (hd : Drawn w w') : Inbox w' B ib g h a cap fs :=
  I.kept (hd.grown none) (by simp) (by cases e : bk a <;> simp)

/-- Behind k pushes. -/
def Pushed (w wr : World) (B ib : Nat) (g : Int) (ls qs : Nat → Int) (k : Nat) : Prop := ∃ a cap, Inbox wr B ib g 0 a cap (frs ls qs k) ∧ Below B w wr

theorem Pushed.next {w wr wd w' : World} {B ib : Nat} {g : Int} {ls qs : Nat → Int} {k : Nat} {a : Option Addr} {cap : Nat} (I : Inbox wd B ib g 0 a cap (frs ls qs k)) (hd : Drawn wr wd) (hb : Below B w wr)
    (hU : Upd wd w' B ib (bk a) g 0 (frs ls qs k ++ [(ls k, qs k)])) : Pushed w w' B ib g ls qs (k + 1) := by
  obtain ⟨a', cap', I', _, hT⟩ := hU
  refine ⟨a', cap', by rw [frs_succ]; exact I', ?_⟩
  exact (hb.trans (hd.below B)).trans (hT.below I.box.lo I.box.lt (fun b hb => (I.sl.blt b hb).1))

set_option maxHeartbeats 400000 in
theorem bytes25_any (g u : Int) (a1 : Option Addr) (l1 c1 : Nat) (a2 : Option Addr) (l2 c2 : Nat) (w : World) (h1 : l1 ≤ maxLen) (h2 : l2 ≤ maxLen) :
    Calls Trym.prog 25 #[.int .u64 g, .slice a1 l1 c1, .slice a2 l2 c2, .int .i64 u] w fun e w' => RetBool e ∧ w = w' := by
  unfold maxLen at h1 h2
  go_enter Trym.func25, Trym.ntmps25
  go_wp2
  all_goals (go_ret; exact ⟨RetBool.mk _, rfl⟩)

set_option maxRecDepth 100000 in
set_option maxHeartbeats 2000000 in
theorem f7_any (g u : Int) (a1 : Option Addr) (l1 c1 : Nat) (ad1 : Nat → Addr) (ls : Nat → Int) (a2 : Option Addr) (l2 c2 : Nat) (ad2 : Nat → Addr) (qs : Nat → Int) (w : World)
    (hg0 : 0 ≤ g) (hg1 : g ≤ 18446744073709551615) (hu0 : -9223372036854775808 ≤ u) (hu1 : u ≤ 9223372036854775807)
    (hr1 : Row 33 w.heap.size w a1 l1 c1 ad1 (fun k => .int .u64 (ls k))) (hr2 : Row 33 w.heap.size w a2 l2 c2 ad2 (fun k => .int .u64 (qs k))) (hls : ∀ k, k < l1 → 0 ≤ ls k ∧ ls k ≤ 18446744073709551615) :
    Calls Trym.prog 7 #[.int .u64 g, .slice a1 l1 c1, .slice a2 l2 c2, .int .i64 u] w fun e w' => e = .returned (.bool true) ∧ Below w.heap.size w w' := by
  have HR1 : Hid (Row 33 w.heap.size w a1 l1 c1 ad1 (fun k => .int .u64 (ls k))) := hr1
  have HR2 : Hid (Row 33 w.heap.size w a2 l2 c2 ad2 (fun k => .int .u64 (qs k))) := hr2
  have HLS : Hid (∀ k, k < l1 → 0 ≤ ls k ∧ ls k ≤ 18446744073709551615) := hls
  have hl1 := hr1.len_le
  have hl2 := hr2.len_le
  clear hr1 hr2 hls
  unfold maxLen at hl1 hl2
  go_enter Trym.func7, Trym.ntmps7
  go_wp2_with fail
  refine (bytes25_any g u a1 l1 c1 a2 l2 c2 w HR1.out.len_le HR2.out.len_le).mono ?_
  rintro e w' ⟨⟨b, rfl⟩, rfl⟩
  cases b with
  | false =>
    go_wp2
    go_ret
    exact ⟨rfl, Below.refl _ _⟩
  | true =>
    by_cases q0 : (65536 : Int) < l1
    · go_wp2
      go_ret
      exact ⟨rfl, Below.refl _ _⟩
    by_cases q1 : (65536 : Int) < l2
    · go_wp2
      go_ret
      exact ⟨rfl, Below.refl _ _⟩
    by_cases q2 : (9223372036854775808 : Int) < g
    · go_wp2
      go_ret
      exact ⟨rfl, Below.refl _ _⟩
    by_cases q3 : u < 0
    · go_wp2
      go_ret
      exact ⟨rfl, Below.refl _ _⟩
    by_cases q4 : g < u
    · go_wp2
      go_ret
      exact ⟨rfl, Below.refl _ _⟩
    obtain ⟨m, hm⟩ : ∃ m, m = min l1 l2 := ⟨_, rfl⟩
    have HEM : Hid ((min (l1 : Int) (l2 : Int)) = (m : Int)) := show _ = _ by omega
    have hm1 : m ≤ l1 := by omega
    have hm2 : m ≤ l2 := by omega
    clear hm
    go_wp2_with fail
    refine (min2_any _ _ _).mono ?_
    rintro e w' ⟨rfl, rfl⟩
    rw [HEM.out]
    go_wp2
    go_loopw [10] (fun i wr => ∃ k : Nat, k ≤ m ∧ i = .int .i64 k ∧ Drawn w wr ∧ Rising ls g k) (fun i _ => m - (intOf i).toNat)
    case atStart => exact ⟨0, Nat.zero_le _, rfl, Drawn.refl w, fun j hj => absurd hj (Nat.not_lt_zero j)⟩
    case round =>
      obtain ⟨k, hk, rfl, hD, hR⟩ := hrel
      by_cases hlt : k < m
      · have i1 := fun W => HR1.out.idx k W (by omega)
        have g1 := (HR1.out.below (hD.below w.heap.size)).cell k (by omega)
        have hk1 : (k : Int) < (m : Int) := by omega
        have HD : Hid (Drawn w wr) := hD
        have HR : Hid (Rising ls g k) := hR
        obtain ⟨hb0, hb1⟩ := HLS.out k (by omega)
        clear hD hR
        by_cases t1 : g ≤ ls k
        · go_wp2
          go_ret
          exact ⟨rfl, HD.out.below _⟩
        · have t1' : ls k < g := by omega
          clear t1
          by_cases hz : k = 0
          · have hd : decide ((0 : Int) < (k : Int)) = false := by simp [hz]
            have hdn : decide (0 < k) = false := by simp [hz]
            have HRS : Hid (Rising ls g (k + 1)) := by
              intro j hj
              have : j = 0 := by omega
              subst this
              subst hz
              exact ⟨t1', fun h => absurd h (by omega)⟩
            clear hz
            go_wp2
            go_quiet (fail)
            go_wp2
            go_roundw
            case rel => exact ⟨k + 1, by omega, by go_num, HD.out.drewN _, HRS.out⟩
            case measure => simp [intOf]; omega
          · have hz0 : (0 : Int) < (k : Int) := by omega
            have hzn : 0 < k := by omega
            have ek : ((k - 1 : Nat) : Int) = (k : Int) - 1 := by omega
            have i0 := fun W => HR1.out.idx (k - 1) W (by omega)
            rw [ek] at i0
            have g0 := (HR1.out.below (HD.out.below w.heap.size)).cell (k - 1) (by omega)
            obtain ⟨hc0, hc1⟩ := HLS.out (k - 1) (by omega)
            have HRS : Hid (ls (k - 1) < ls k → Rising ls g (k + 1)) := by
              intro hr j hj
              rcases Nat.lt_or_ge j k with h | h
              · exact HR.out j h
              · have : j = k := by omega
                subst this
                exact ⟨t1', fun _ => hr⟩
            clear ek
            generalize ls (k - 1) = pv at g0 hc0 hc1 HRS
            by_cases t2 : ls k ≤ pv
            · go_wp2
              go_quiet (fail)
              go_wp2
              go_ret
              exact ⟨rfl, (HD.out.drewN _).below _⟩
            · have t2' : pv < ls k := by omega
              clear t2
              go_wp2
              go_quiet (fail)
              go_wp2
              go_roundw
              case rel => exact ⟨k + 1, by omega, by go_num, HD.out.drewN _, HRS.out t2'⟩
              case measure => simp [intOf]; omega
      · have : k = m := by omega
        subst this
        have hsz : w.heap.size ≤ wr.heap.size := (hD.below w.heap.size).size
        have HRI : Hid (Rising ls g k) := hR
        have HBW : Hid (Below w.heap.size w wr) := hD.below _
        clear hD hR
        obtain ⟨ib, hib⟩ : ∃ ib, ib = wr.heap.size := ⟨_, rfl⟩
        have HIB : Hid (ib = wr.heap.size) := hib
        clear hib
        go_wp2_with fail
        refine (newInbox_at g 0 wr w.heap.size ib hsz HIB.out).mono ?_
        rintro e w1 ⟨rfl, hI, hb1⟩
        have HP : Hid (Pushed w w1 w.heap.size ib g ls qs 0) := ⟨none, 0, hI, HBW.out.trans (hb1.mono hsz)⟩
        clear hI hb1 hsz HBW HIB
        go_wp2
        go_loopw [12] (fun i wq => ∃ j : Nat, j ≤ k ∧ i = .int .i64 j ∧ Pushed w wq w.heap.size ib g ls qs j) (fun i _ => k - (intOf i).toNat)
        case atStart => exact ⟨0, Nat.zero_le _, rfl, HP.out⟩
        case round =>
          obtain ⟨j, hj, rfl, a, cap, hI, hbl⟩ := hrel
          by_cases hjk : j < k
          · have i1 := fun W => HR1.out.idx j W (by omega)
            have i2 := fun W => HR2.out.idx j W (by omega)
            have g1 := (HR1.out.below hbl).cell j (by omega)
            have g2 := (HR2.out.below hbl).cell j (by omega)
            have hdr : Drawn wr wr.drew := ⟨rfl, rfl, rfl, rfl⟩
            have hId := hI.kept (hdr.grown none) (by simp) (by cases e : bk a <;> simp)
            have hjl : (j : Int) < (k : Int) := by omega
            have HJ : Hid (∀ w', Upd wr.drew w' w.heap.size ib (bk a) g 0 (frs ls qs j ++ [(ls j, qs j)]) → Pushed w w' w.heap.size ib g ls qs (j + 1)) := fun w' hU => Pushed.next hId hdr hbl hU
            clear hI hbl hdr HP
            go_wp2
            go_region_with (go_at_call 18; refine (pushFrame_any hId (ls j) (qs j) (by rw [frs_length]; omega)).mono ?_; rintro e w' ⟨rfl, hU⟩)
            all_goals
              go_wp2
              go_roundw
              case rel => exact ⟨j + 1, by omega, by go_num, HJ.out _ hU⟩
              case measure => simp [intOf]; omega
          · have : j = k := by omega
            subst this
            obtain ⟨c, hc⟩ : ∃ c, c = cut ls qs u g j := ⟨_, rfl⟩
            have hcj : c ≤ j := by rw [hc]; exact cut_le ls qs u g j
            have HLO : Hid (∀ i, i < c → ls i + u < g) := fun i hi => cut_below (by rw [← hc]; exact hi)
            have HHI : Hid (∀ i, c ≤ i → i < j → g ≤ ls i + u) := fun i hi hij => cut_above HRI.out (by rw [← hc]; exact hi) hij
            have HGE : Hid (∀ i, c ≤ i → i < j → ((frs ls qs j).dropWhile (goes u g))[i - c]? = some (ls i, qs i)) := fun i hi hij => by rw [hc]; exact left_get ls qs u g (by rw [← hc]; exact hi) hij
            have hle : ((frs ls qs j).dropWhile (goes u g)).length = j - c := by rw [hc]; exact left_length ls qs u g j
            have HLE : Hid (((frs ls qs j).dropWhile (goes u g)).length = j - c) := hle
            have hbd : ∀ p ∈ frs ls qs j, 0 ≤ p.1 ∧ p.1 + u ≤ 18446744073709551615 := by
              intro p hp
              obtain ⟨i, hi, rfl⟩ := frs_mem hp
              have h1 := HLS.out i (by omega)
              have h2 := (HRI.out i hi).1
              simp only
              omega
            have HBD : Hid (∀ p ∈ frs ls qs j, 0 ≤ p.1 ∧ p.1 + u ≤ 18446744073709551615) := hbd
            clear hbd hle hc HP
            have hu' : 0 ≤ u := by omega
            go_wp2_with fail
            refine (ZZTake_any hI u hu' hu1 HBD.out (by rw [frs_length]; omega)).mono ?_
            rintro e w2 ⟨rfl, a2, cap2, hI2, _, hT, hnil⟩
            have HB2 : Hid (Below w.heap.size w w2) := hbl.trans (hT.below hI.box.lo hI.box.lt (fun b hb => (hI.sl.blt b hb).1))
            clear hI hbl hT
            generalize (frs ls qs j).dropWhile (goes u g) = fs2 at hI2 hnil HGE HLE
            obtain ⟨n2, rfl⟩ : ∃ n2, j = c + n2 := ⟨j - c, by omega⟩
            have hl2' : fs2.length = n2 := by rw [HLE.out]; omega
            have HL2 : Hid (fs2.length = n2) := hl2'
            have hIN : Hid (∀ w', Drawn w2 w' → Inbox w' w.heap.size ib g 0 a2 cap2 fs2) := fun w' hd => hI2.drawn hd
            have hem : a2.isNone = ((n2 : Int) == 0) := by
              rw [hnil, ← hl2']
              cases fs2 <;> simp
              omega
            have HEM2 : Hid (a2.isNone = ((n2 : Int) == 0)) := hem
            clear hem hnil hl2' HLE
            go_wp2_with fail
            refine (frames_any hI2).mono ?_
            rintro e w' ⟨rfl, rfl⟩
            rw [HL2.out]
            clear hI2
            go_wp2
            go_loopw [15, 16] (fun jj ii wq => ∃ i : Nat, i ≤ c + n2 ∧ ii = .int .i64 i ∧ jj = .int .i64 ((i - c : Nat)) ∧ Drawn w2 wq) (fun _ ii _ => c + n2 - (intOf ii).toNat)
            case atStart => exact ⟨0, Nat.zero_le _, rfl, by simp, Drawn.refl w2⟩
            case round =>
              obtain ⟨i, hi, rfl, rfl, hD⟩ := hrel
              have HBL : Hid (Below w.heap.size w wr) := HB2.out.trans (hD.below _)
              have HD : Hid (Drawn w2 wr) := hD
              clear hD
              by_cases hij : i < c + n2
              · have i1 := fun W => HR1.out.idx i W (by omega)
                have g1 := (HR1.out.below HBL.out).cell i (by omega)
                obtain ⟨hb0, hb1⟩ := HLS.out i (by omega)
                have hij' : (i : Int) < ((c + n2 : Nat) : Int) := by omega
                by_cases hic : i < c
                · have t1 := HLO.out i hic
                  go_wp2
                  go_roundw
                  case rel => exact ⟨i + 1, by omega, by go_num, by rw [show i - c = 0 by omega, show i + 1 - c = 0 by omega], HD.out⟩
                  case measure => simp [intOf]; omega
                · have t1 := HHI.out i (by omega) (by omega)
                  have i2 := fun W => HR2.out.idx i W (by omega)
                  have g2 := (HR2.out.below HBL.out).cell i (by omega)
                  have hgd := HGE.out i (by omega) (by omega)
                  obtain ⟨d, hd⟩ : ∃ d, i - c = d := ⟨_, rfl⟩
                  rw [hd] at hgd ⊢
                  have hdn : (d : Int) < (n2 : Int) := by omega
                  have HDI : Hid (i - c = d) := hd
                  clear hd
                  generalize ls i = lv at g1 hb0 hb1 t1 hgd
                  generalize qs i = qv at g2 hgd
                  have HGD : Hid (fs2[d]? = some (lv, qv)) := hgd
                  clear hgd
                  go_wp2
                  go_quiet (first | (go_at_call 21; exact quiet_of_eq (frameLast_any (hIN.out _ (HD.out.drewN _)) HGD.out)) | (go_at_call 22; exact quiet_of_eq (frameSeq_any (hIN.out _ (HD.out.drewN _)) HGD.out)))
                  go_wp2
                  go_roundw
                  case rel => exact ⟨i + 1, by omega, by go_num, by rw [show i + 1 - c = d + 1 by have := HDI.out; omega]; go_num, HD.out.drewN _⟩
                  case measure => simp [intOf]; omega
              · have : i = c + n2 := by omega
                subst this
                rw [show c + n2 - c = n2 by omega]
                go_wp2_with fail
                refine (framesNil_any (hIN.out _ HD.out)).mono ?_
                rintro e w' ⟨rfl, rfl⟩
                rw [HEM2.out]
                go_wp2_with fail
                refine (given_any (hIN.out _ HD.out)).mono ?_
                rintro e w' ⟨rfl, rfl⟩
                go_wp2
                go_ret
                exact ⟨rfl, HBL.out⟩

end Go.Proofs.Qxb6000603aMods
