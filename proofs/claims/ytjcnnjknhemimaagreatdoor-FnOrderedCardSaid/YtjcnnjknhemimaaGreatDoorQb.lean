/- The walk of slices.pdqsortOrdered at doubles (fewer than fifty of them): it computes the plain pdq (lines of the kit's worked walk at int, turned: wip/mkqb.py). -/
import Derived.Test.YtjcnnjknhemimaaGreatDoorQ5
import Derived.Test.YtjcnnjknhemimaaGreatDoorQ6
import Derived.Test.YtjcnnjknhemimaaGreatDoorQ7
import Derived.Test.YtjcnnjknhemimaaGreatDoorQ8
import Derived.Test.YtjcnnjknhemimaaGreatDoorQ9
import Derived.Test.YtjcnnjknhemimaaGreatDoorQa
import Derived.Sort.Walk13a
import Derived.Sort.AssemblyPlain
import Derived.Deep.Cut
import Derived.Deep.LoopGhost
namespace Go.Proofs.YtjcnnjknhemimaaGreatDoor
open Go Go.RowKit Go.Sort Ieee Fl
theorem Row.both {w wr : World} {blk off : Nat} {d d0 : Array Sm} (h : Row w wr blk off d) (h0 : Holds enc w blk off d0) (hs : d.size = d0.size) (hb : blk < w.heap.size) : Holds enc wr blk off d ∧ blk < wr.heap.size := ⟨h.holds h0 hb hs, Nat.lt_of_lt_of_le hb h.size⟩
theorem hintCode_two {h : Hint} (e : hintCode h = 2) : h = .decreasing := by cases h <;> simp [hintCode] at e ⊢
/-- Three comparisons do not tell a descending row. -/
theorem choose_not (d : Array Sm) (a b : Nat) (h : b - a < 50) : (choosePivot lt d a b).2 ≠ .decreasing := by
  rw [choosePivot_eq]
  have hc : (rawPivot lt d a b).2 ≤ 3 := by
    unfold rawPivot
    split
    · rw [if_neg (by omega)]; exact Nat.le_trans (median_count lt d _ _ _ 0) (by omega)
    · simp
  show hintOf (rawPivot lt d a b).2 ≠ .decreasing
  unfold hintOf
  split
  · simp
  · rw [if_neg (by omega)]; simp
theorem eighth {x y p q : Nat} (h1 : q ≤ p) (h2 : y ≤ x) : decide (((x : Int) - (y : Int)) / 8 ≤ (p : Int) - (q : Int)) = decide (p - q ≥ (x - y) / 8) :=
  decide_eq_decide.2 ⟨fun h => by omega, fun h => by omega⟩

set_option maxHeartbeats 6400000 in
set_option maxRecDepth 1000000 in
theorem pdqsort_any : ∀ (N blk off cap a b limit : Nat) (d : Array Sm) (w : World), b - a < N → Holds enc w blk off d → blk < w.heap.size → a ≤ b → b ≤ d.size → d.size < 50 → limit < 1000 → Sort.Below lt a b d →
    Calls Tryz.prog 76 #[.slice (some ⟨blk, off, none⟩) d.size cap, .int .i64 a, .int .i64 b, .int .i64 limit] w fun e w' => e = .returned (.tuple #[]) ∧ Row w w' blk off (pdq lt d a b limit true true) := by
  intro N
  induction N with
  | zero => intro _ _ _ _ _ _ _ _ h; exact absurd h (Nat.not_lt_zero _)
  | succ N ih =>
    intro blk off cap a b limit d w hN hH hblk hab hb hsz hlimit hBel0
    go_enter Tryz.func76, Tryz.ntmps76
    go_wp2
    go_loopg [1, 2, 3, 8, 9] (b - a) (fun k s1 s2 s3 s8 s9 wr => ∃ (a' b' lim : Nat) (wb wp : Bool) (dk : Array Sm), s1 = .int .i64 a' ∧ s2 = .int .i64 b' ∧ s3 = .int .i64 lim ∧ s8 = .bool wb ∧ s9 = .bool wp ∧
      a' ≤ b' ∧ b' ≤ d.size ∧ b' - a' ≤ k ∧ k ≤ b - a ∧ lim ≤ limit ∧ dk.size = d.size ∧ Sort.Below lt a' b' dk ∧ Row w wr blk off dk ∧ pdq lt dk a' b' lim wb wp = pdq lt d a b limit true true)
    case atStart => exact ⟨a, b, limit, true, true, d, rfl, rfl, rfl, rfl, rfl, hab, hb, Nat.le_refl _, Nat.le_refl _, Nat.le_refl _, rfl, hBel0, Row.start hH, rfl⟩
    case round =>
      obtain ⟨a', b', lim, wb, wp, dk, rfl, rfl, rfl, rfl, rfl, hab', hb', hk, hkN, hlim, hds, hBel, hAt, heq⟩ := hrel
      obtain ⟨hHk, hblk'⟩ := hAt.both hH hds hblk
      have A := hide heq
      clear heq
      by_cases h12 : b' - a' ≤ 12
      ·
        have h12z : (b' : Int) - (a' : Int) ≤ 12 := by omega
        have hc := insertion_any blk off cap a' b' dk wr hHk hblk' hab' (by omega) (by omega)
        rw [hds] at hc
        go_wp2_with (go_at_call 85; refine hc.mono ?_; rintro e w1 ⟨rfl, hw1⟩)
        (try simp only [Exit.inBlock, Exit.then]); refine bodyPost_ret (results_none rfl _ _ _) rfl ?_
        refine ⟨rfl, ?_⟩
        rw [← A.out, pdq_small h12]
        exact hAt.trans hblk (insertionSort_holds lt_swo dk a' b' hab' (by omega)).1.1 hw1
      · have h12z : ¬ ((b' : Int) - (a' : Int) ≤ 12) := by omega
        by_cases hl0 : lim = 0
        ·
          subst hl0
          have hc := heap_any blk off cap a' b' dk wr hHk hblk' hab' (by omega) (by omega)
          rw [hds] at hc
          go_wp2_with (go_at_call 86; refine hc.mono ?_; rintro e w1 ⟨rfl, hw1⟩)
          (try simp only [Exit.inBlock, Exit.then]); refine bodyPost_ret (results_none rfl _ _ _) rfl ?_
          refine ⟨rfl, ?_⟩
          rw [← A.out, pdq_heap h12 rfl]
          exact hAt.trans hblk (heapSort_holds lt_swo dk a' b' hab' (by omega)).1.1 hw1
        · have hl0z : ¬ ((lim : Int) = 0) := by omega
          obtain ⟨s1, B1, hc1, s2, B2, hpv, s3, B3⟩ := rd_facts (limit := lim) (wb := wb) (wp := wp) lt_swo partialInsertionSort_holds reverseRange_holds (show a' < b' by omega) (show b' ≤ dk.size by omega) hBel
          go_upto_if 35 with fail
          go_cut [3] from 19 (fun s3 wc => s3 = .int .i64 (rd lt dk a' b' lim wb wp).lim ∧ Row w wc blk off (rd lt dk a' b' lim wb wp).d1)
          case first =>
            cases wb
            · have hc := break_any blk off cap a' b' dk wr hHk hblk' (by omega) (by omega) (by omega)
              rw [hds] at hc
              go_wp2_with (go_at_call 87; refine hc.mono ?_; rintro e w1 ⟨rfl, hw1⟩)
              go_meet
              case rel =>
                refine ⟨?_, hAt.trans hblk s1 hw1⟩
                show Value.int .i64 ((lim : Int) - 1) = Value.int .i64 ((lim - 1 : Nat) : Int)
                congr 1
                omega
            · go_wp2_with fail
              go_meet
              case rel => exact ⟨rfl, hAt⟩
          case rest =>
            obtain ⟨rfl, hAt1⟩ := hcut
            obtain ⟨hH1, hblk1⟩ := hAt1.both hH (s1.trans hds) hblk
            have hc17 : Calls Tryz.prog 88 #[.slice (some ⟨blk, off, none⟩) d.size cap, .int .i64 a', .int .i64 b'] wc fun e w' => e = .returned (.tuple #[.int .i64 (rd lt dk a' b' lim wb wp).c.1, .int .i64 (hintCode (rd lt dk a' b' lim wb wp).c.2)]) ∧ Row wc w' blk off (rd lt dk a' b' lim wb wp).d1 := by
              have := pivot_any blk off cap a' b' (rd lt dk a' b' lim wb wp).d1 wc hH1 hblk1 (by omega) (by omega) (by omega)
              rw [s1, hds] at this
              exact this
            go_upto_if 50 with (go_at_call 88; refine hc17.mono ?_; rintro e w2 ⟨rfl, hw2⟩)
            have hAt2 : Row w w2 blk off (rd lt dk a' b' lim wb wp).d1 := hAt1.trans hblk rfl hw2
            obtain ⟨hH2, hblk2⟩ := hAt2.both hH (s1.trans hds) hblk
            go_cut [11, 12] from 19 (fun s11 s12 wc => s11 = .int .i64 (rd lt dk a' b' lim wb wp).pivot ∧ s12 = .int .i64 (hintCode (rd lt dk a' b' lim wb wp).hint) ∧ Row w wc blk off (rd lt dk a' b' lim wb wp).d2)
            case first =>
              have hh : (rd lt dk a' b' lim wb wp).c.2 ≠ .decreasing := choose_not _ _ _ (by omega)
              have hcode : ¬ (hintCode (rd lt dk a' b' lim wb wp).c.2 = 2) := fun h => hh (hintCode_two h)
              obtain ⟨e2, epv, eht⟩ := rd_not hh
              go_wp2_with fail
              go_meet
              case rel => exact ⟨by rw [epv], by rw [eht], by rw [e2]; exact hAt2⟩
            case rest =>
              obtain ⟨rfl, rfl, hAt3⟩ := hcut
              obtain ⟨hH3, hblk3⟩ := hAt3.both hH (s2.trans hds) hblk
              go_upto_region 15 with fail
              go_cut [12, 68] from 19 (fun s12 s68 wx => s12 = .int .i64 (hintCode (rd lt dk a' b' lim wb wp).hint) ∧ s68 = .bool (wb && wp && decide ((rd lt dk a' b' lim wb wp).hint = .increasing)) ∧ wx = wc)
              case first =>
                cases wb <;> cases wp <;> cases hh3 : (rd lt dk a' b' lim _ _).hint <;>
                  (have hcode3 := congrArg hintCode hh3
                   simp only [hintCode] at hcode3
                   go_wp2_with fail
                   go_meet
                   exact ⟨by simp [hh3, hintCode], by simp [hh3, hintCode], rfl⟩)
              case rest =>
                obtain ⟨rfl, rfl, rfl⟩ := hcut
                go_upto_if 68 with fail
                go_cut [] from 19 (fun wx => (rd lt dk a' b' lim wb wp).pi.2 = false ∧ Row w wx blk off (rd lt dk a' b' lim wb wp).pi.1)
                case first =>
                  cases h68 : (wb && wp && decide ((rd lt dk a' b' lim wb wp).hint = .increasing))
                  · have epi := rd_pi_no h68
                    go_wp2_with fail
                    go_meet
                    case rel => exact ⟨by rw [epi], by rw [epi]; exact hAt3⟩
                  · have epi := rd_pi_yes h68
                    have hc19 := partial_any blk off cap a' b' (rd lt dk a' b' lim wb wp).d2 wc hH3 hblk3 (by omega) (by omega) (by omega) (by omega)
                    rw [s2, hds, ← epi] at hc19
                    go_wp2_with (go_at_call 90; refine hc19.mono ?_; rintro e w4 ⟨rfl, hw4⟩)
                    all_goals first
                      | (have hp2 : (rd lt dk a' b' lim wb wp).pi.2 = false := by rw [epi]; assumption
                         go_meet
                         exact ⟨hp2, hAt3.trans hblk (by rw [s3, s2]) hw4⟩)
                      | (have hp2 : (rd lt dk a' b' lim wb wp).pi.2 = true := by rw [epi]; assumption
                         (try simp only [Exit.inBlock, Exit.then]); refine bodyPost_ret (results_none rfl _ _ _) rfl ?_
                         refine ⟨rfl, ?_⟩
                         rw [← A.out, pdq_done h12 hl0 hp2]
                         exact hAt3.trans hblk (by rw [s3, s2]) hw4)
                case rest =>
                  obtain ⟨hp2, hAt5⟩ := hcut
                  obtain ⟨hH5, hblk5⟩ := hAt5.both hH (s3.trans hds) hblk
                  have hcw : ∀ t, t < d.size → wc.cell? ⟨blk, off + t, none⟩ = some (.float .f64 (word (rd lt dk a' b' lim wb wp).pi.1[t]!.1)) := fun t ht => (hH5 t (by omega)).1
                  have hfw : ∀ t, t < d.size → wc.frozen? ⟨blk, off + t, none⟩ = false := fun t ht => (hH5 t (by omega)).2
                  go_upto_region 17 with fail
                  go_cut [87] from 19 (fun s87 wx => s87 = .bool (decide (a' > 0) && !lt (rd lt dk a' b' lim wb wp).pi.1[a' - 1]! (rd lt dk a' b' lim wb wp).pi.1[(rd lt dk a' b' lim wb wp).pivot]!) ∧ Row w wx blk off (rd lt dk a' b' lim wb wp).pi.1)
                  case first =>
                    rcases Nat.eq_zero_or_pos a' with ha0 | ha0
                    · have ha0z : decide ((a' : Int) > 0) = false := decide_eq_false (by omega)
                      go_big_quiet (first | (go_at_call 91; refine Calls.quiet_of_same (less_any _ _ _)))
                      go_wp2_with fail
                      go_meet
                      case rel => exact ⟨by simp [ha0], hAt5.drewN nq⟩
                    · have ha0z : (a' : Int) > 0 := by omega
                      go_big_quiet (first | (go_at_call 91; refine Calls.quiet_of_same (less_any _ _ _)))
                      go_wp2_with fail
                      go_meet
                      case rel => exact ⟨by simp [ha0], hAt5.drewN nq⟩
                  case rest =>
                    obtain ⟨rfl, hAt6⟩ := hcut
                    obtain ⟨hH6, hblk6⟩ := hAt6.both hH (s3.trans hds) hblk
                    clear hcw hfw
                    cases h87 : (decide (a' > 0) && !lt (rd lt dk a' b' lim wb wp).pi.1[a' - 1]! (rd lt dk a' b' lim wb wp).pi.1[(rd lt dk a' b' lim wb wp).pivot]!)
                    ·
                      obtain ⟨mid, ap, d4, hx⟩ : ∃ mid ap d4, partition lt (rd lt dk a' b' lim wb wp).pi.1 a' b' (rd lt dk a' b' lim wb wp).pivot = (mid, ap, d4) := ⟨(partition lt (rd lt dk a' b' lim wb wp).pi.1 a' b' (rd lt dk a' b' lim wb wp).pivot).1, (partition lt (rd lt dk a' b' lim wb wp).pi.1 a' b' (rd lt dk a' b' lim wb wp).pivot).2.1, (partition lt (rd lt dk a' b' lim wb wp).pi.1 a' b' (rd lt dk a' b' lim wb wp).pivot).2.2, rfl⟩
                      obtain ⟨r1, r2, r3, r4, r5, r6, r7⟩ := round_part lt_swo (partition_holds lt) hpv.1 hpv.2 (show b' ≤ (rd lt dk a' b' lim wb wp).pi.1.size by omega) B3 hx
                      have hc22 := partition_any blk off cap a' b' (rd lt dk a' b' lim wb wp).pivot (rd lt dk a' b' lim wb wp).pi.1 wc hH6 hblk6 hpv.1 hpv.2 (by omega) (by omega)
                      rw [s3, hds, hx] at hc22
                      have X := hide hx
                      clear hx
                      go_upto_if 113 with (go_at_call 93; refine hc22.mono ?_; rintro e w7 ⟨rfl, hw7⟩)
                      have hx := X.out
                      have hAt7 : Row w w7 blk off d4 := hAt6.trans hblk r3 hw7
                      obtain ⟨hH7, hblk7⟩ := hAt7.both hH (r3.trans (s3.trans hds)) hblk
                      by_cases h4 : mid - a' < b' - mid
                      · have h4z : (mid : Int) - (a' : Int) < (b' : Int) - (mid : Int) := by omega
                        have hih := ih blk off cap a' mid (rd lt dk a' b' lim wb wp).lim d4 w7 (by omega) hH7 hblk7 (by omega) (by omega) (by omega) (Nat.lt_of_le_of_lt (Nat.le_trans rd_lim_le hlim) hlimit) r4
                        rw [r3, s3, hds] at hih
                        obtain ⟨pL, sL⟩ := pdq_sorts lt lt_swo d4 a' mid (rd lt dk a' b' lim wb wp).lim true true (by omega) (by omega) r4
                        go_wp2_with (go_at_call 76; refine hih.mono ?_; rintro e w8 ⟨rfl, hw8⟩)
                        go_roundg (b' - (mid + 1))
                        case measure => omega
                        case rel =>
                          refine ⟨mid + 1, b', (rd lt dk a' b' lim wb wp).lim, decide (mid - a' ≥ (b' - a') / 8), ap, pdq lt d4 a' mid (rd lt dk a' b' lim wb wp).lim true true, by simp, rfl, rfl, ?_, rfl, by omega, by omega, Nat.le_refl _, by omega, Nat.le_trans rd_lim_le hlim, by rw [pL.1, r3, s3, hds], (r6 _ pL sL).1, hAt7.trans hblk pL.1 hw8, ?_⟩
                          · exact congrArg Value.bool (eighth (by omega) (by omega))
                          · rw [← A.out, pdq_left h12 hl0 hp2 h87 (by rw [hx]; exact ⟨r1, r2⟩) (by rw [hx]; exact h4), hx]
                      · have h4z : ¬ ((mid : Int) - (a' : Int) < (b' : Int) - (mid : Int)) := by omega
                        have hih := ih blk off cap (mid + 1) b' (rd lt dk a' b' lim wb wp).lim d4 w7 (by omega) hH7 hblk7 (by omega) (by omega) (by omega) (Nat.lt_of_le_of_lt (Nat.le_trans rd_lim_le hlim) hlimit) r5
                        rw [r3, s3, hds] at hih
                        obtain ⟨pL, sL⟩ := pdq_sorts lt lt_swo d4 (mid + 1) b' (rd lt dk a' b' lim wb wp).lim true true (by omega) (by omega) r5
                        go_wp2_with (go_at_call 76; refine hih.mono ?_; rintro e w8 ⟨rfl, hw8⟩)
                        go_roundg (mid - a')
                        case measure => omega
                        case rel =>
                          refine ⟨a', mid, (rd lt dk a' b' lim wb wp).lim, decide (b' - mid ≥ (b' - a') / 8), ap, pdq lt d4 (mid + 1) b' (rd lt dk a' b' lim wb wp).lim true true, rfl, rfl, rfl, ?_, rfl, by omega, by omega, Nat.le_refl _, by omega, Nat.le_trans rd_lim_le hlim, by rw [pL.1, r3, s3, hds], (r7 _ pL sL).1, hAt7.trans hblk pL.1 hw8, ?_⟩
                          · exact congrArg Value.bool (eighth (by omega) (by omega))
                          · rw [← A.out, pdq_right h12 hl0 hp2 h87 (by rw [hx]; exact ⟨r1, r2⟩) (by rw [hx]; exact h4), hx]
                    ·
                      have h87' := h87
                      simp only [Bool.and_eq_true, decide_eq_true_eq, Bool.not_eq_true'] at h87'
                      obtain ⟨mid, d4, hx⟩ : ∃ mid d4, partitionEqual lt (rd lt dk a' b' lim wb wp).pi.1 a' b' (rd lt dk a' b' lim wb wp).pivot = (mid, d4) := ⟨(partitionEqual lt (rd lt dk a' b' lim wb wp).pi.1 a' b' (rd lt dk a' b' lim wb wp).pivot).1, (partitionEqual lt (rd lt dk a' b' lim wb wp).pi.1 a' b' (rd lt dk a' b' lim wb wp).pivot).2, rfl⟩
                      obtain ⟨r1, r2, r3, r4, _⟩ := round_eq lt_swo (partitionEqual_holds lt) h87'.1 hpv.1 hpv.2 (show b' ≤ (rd lt dk a' b' lim wb wp).pi.1.size by omega) B3 h87'.2 hx
                      have hc21 := partEqual_any blk off cap a' b' (rd lt dk a' b' lim wb wp).pivot (rd lt dk a' b' lim wb wp).pi.1 wc hH6 hblk6 hpv.1 hpv.2 (by omega) (by omega)
                      rw [s3, hds, hx] at hc21
                      have X := hide hx
                      clear hx
                      go_wp2_with (go_at_call 92; refine hc21.mono ?_; rintro e w7 ⟨rfl, hw7⟩)
                      go_roundg (b' - mid)
                      case measure => omega
                      case rel =>
                        have hx := X.out
                        exact ⟨mid, b', (rd lt dk a' b' lim wb wp).lim, wb, wp, d4, rfl, rfl, rfl, rfl, rfl, r2, hb', Nat.le_refl _, by omega, Nat.le_trans rd_lim_le hlim, by rw [r3, s3, hds], r4, hAt6.trans hblk r3 hw7, by rw [← A.out, pdq_eq h12 hl0 hp2 h87 (by rw [hx]; exact ⟨r1, r2⟩), hx]⟩
end Go.Proofs.YtjcnnjknhemimaaGreatDoor
