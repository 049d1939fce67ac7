/- The walk of slices.siftDownOrdered at doubles. -/
import Derived.Test.YtjcnnjknhemimaaGreatDoorQ3
namespace Go.Proofs.YtjcnnjknhemimaaGreatDoor
open Go Go.RowKit Go.Sort Ieee Fl
attribute [local go_sem] run_store_float
theorem sift_end (hi first r : Nat) (d : Array Sm) (h : hi ≤ 2 * r + 1) : siftDown lt hi first r d = d := by rw [siftDown, dif_pos h]
/-- The child that siftDown takes. -/
def kid (hi first r : Nat) (d : Array Sm) : Nat := if 2 * r + 1 + 1 < hi && lt d[first + (2 * r + 1)]! d[first + (2 * r + 1) + 1]! then 2 * r + 2 else 2 * r + 1
theorem kid_c (hi first r c : Nat) (d : Array Sm) (h : c = 2 * r + 1) : kid hi first r d = if (decide (c + 1 < hi) && lt d[first + c]! d[first + c + 1]!) = true then c + 1 else c := by
  subst h
  rfl
theorem sift_stop (hi first r : Nat) (d : Array Sm) (h : 2 * r + 1 < hi) (hl : lt d[first + r]! d[first + kid hi first r d]! = false) : siftDown lt hi first r d = d := by
  rw [siftDown, dif_neg (by omega)]
  unfold kid at hl
  split
  · rename_i hc
    rw [if_pos hc] at hl
    rw [if_pos (by rw [hl]; rfl)]
  · rename_i hc
    rw [if_neg hc] at hl
    rw [if_pos (by rw [hl]; rfl)]
theorem sift_go (hi first r : Nat) (d : Array Sm) (h : 2 * r + 1 < hi) (hl : lt d[first + r]! d[first + kid hi first r d]! = true) :
    siftDown lt hi first r d = siftDown lt hi first (kid hi first r d) (swp d (first + r) (first + kid hi first r d)) := by
  conv => lhs; rw [siftDown, dif_neg (show ¬ 2 * r + 1 ≥ hi by omega)]
  unfold kid at hl ⊢
  by_cases hc : (2 * r + 1 + 1 < hi && lt d[first + (2 * r + 1)]! d[first + (2 * r + 1) + 1]!) = true
  · have h2 : 2 * r + 2 < hi := by
      simp only [Bool.and_eq_true, decide_eq_true_eq] at hc
      omega
    rw [if_pos hc] at hl ⊢
    rw [if_pos hc, if_neg (by rw [hl]; decide), dif_pos h2]
  · rw [if_neg hc] at hl ⊢
    rw [if_neg hc, if_neg (by rw [hl]; decide)]
set_option maxHeartbeats 2000000 in
theorem sift_any (blk off cap lo hi first : Nat) (d : Array Sm) (w : World) (hH : Holds enc w blk off d) (hblk : blk < w.heap.size) (hfh : first + hi ≤ d.size) (hlo : lo ≤ hi) (hsz : d.size ≤ 1000) :
    Calls Tryz.prog 103 #[.slice (some ⟨blk, off, none⟩) d.size cap, .int .i64 lo, .int .i64 hi, .int .i64 first] w fun e w' => e = .returned (.tuple #[]) ∧ Row w w' blk off (siftDown lt hi first lo d) := by
  have HH := hide hH
  go_enter Tryz.func103, Tryz.ntmps103
  go_wp2_with fail
  go_loopw [8] (fun vr wr => ∃ (r : Nat) (dk : Array Sm), vr = .int .i64 r ∧ r ≤ hi ∧ dk.size = d.size ∧ Hid (Row w wr blk off dk) ∧ Hid (siftDown lt hi first r dk = siftDown lt hi first lo d)) (fun vr _ => hi - (intOf vr).toNat)
  case atStart => exact ⟨lo, d, rfl, hlo, rfl, hide (Row.start hH), hide rfl⟩
  case round =>
    obtain ⟨r, dk, rfl, hrh, hsk, HR, HO⟩ := hrel
    clear hH
    by_cases hc : hi ≤ 2 * r + 1
    · go_wp2_with fail
      go_end0
      exact ⟨rfl, by rw [← HO.out, sift_end hi first r dk hc]; exact HR.out⟩
    · obtain ⟨G, hG⟩ : ∃ G : Nat → Sm, ∀ t, G t = dk[t]! := ⟨fun t => dk[t]!, fun _ => rfl⟩
      have hcell : ∀ t, t < d.size → wr.cell? ⟨blk, off + t, none⟩ = some (.float .f64 (word (G t).1)) := fun t ht => by
        rw [hG]; exact HR.out.cell HH.out hblk hsk t (by omega)
      have hfroz : ∀ t, t < d.size → wr.frozen? ⟨blk, off + t, none⟩ = false := fun t ht => HR.out.frozen HH.out hblk hsk t (by omega)
      have HG := hide hG
      clear hG
      obtain ⟨c, hcr⟩ : ∃ c : Nat, 2 * (r : Int) + 1 = c := ⟨2 * r + 1, by omega⟩
      have hcn : c = 2 * r + 1 := by omega
      have HCN := hide hcn
      have hch : c < hi := by omega
      have b0 : first + c < d.size := by omega
      have b1 : first + r < d.size := by omega
      clear hcn hc
      by_cases hc2 : c + 1 < hi
      · have hc2i : (c : Int) + 1 < hi := by omega
        have b2 : first + c + 1 < d.size := by omega
        have b3 : first + (c + 1) < d.size := by omega
        go_wp2_with fail
        go_quiet (first | (go_at_call 91; refine Calls.quiet_of_same (less_any _ _ _)))
        go_wp2_with fail
        · have hl1 : lt (G (first + c)) (G (first + c + 1)) = true := by assumption
          have hk : kid hi first r dk = c + 1 := by rw [kid_c hi first r c dk HCN.out, if_pos (by rw [← HG.out, ← HG.out, hl1]; simpa using hc2)]
          revert nq
          intro nq1
          have hcell2 : ∀ t, t < d.size → (wr.drewN nq1).cell? ⟨blk, off + t, none⟩ = some (.float .f64 (word (G t).1)) := hcell
          have hfroz2 : ∀ t, t < d.size → (wr.drewN nq1).frozen? ⟨blk, off + t, none⟩ = false := hfroz
          have HR2 : Hid (Row w (wr.drewN nq1) blk off dk) := hide (HR.out.drewN nq1)
          clear hcell hfroz HR
          generalize wr.drewN nq1 = wr2 at hcell2 hfroz2 HR2 ⊢
          go_quiet (first | (go_at_call 91; refine Calls.quiet_of_same (less_any _ _ _)))
          go_wp2_with fail
          · have hl : lt (G (first + r)) (G (first + (c + 1))) = false := by
              have : (!lt (G (first + r)) (G (first + (c + 1)))) = true := by assumption
              simpa using this
            (try simp only [Exit.inBlock, Exit.then])
            refine bodyPost_ret (results_none rfl _ _ _) rfl ?_
            exact ⟨rfl, by rw [← HO.out, sift_stop hi first r dk (by omega) (by rw [hk, ← HG.out, ← HG.out]; exact hl)]; exact HR2.out.drewN nq⟩
          · have hl : lt (G (first + r)) (G (first + (c + 1))) = true := by
              have : (!lt (G (first + r)) (G (first + (c + 1)))) = false := by assumption
              simpa using this
            go_region
            all_goals go_wp2
            go_roundw
            case rel =>
              refine ⟨(c + 1), swp dk (first + r) (first + (c + 1)), by congr 1, by omega, by rw [swp_size]; exact hsk, hide ?_, hide ?_⟩
              · have := (HR2.out.drewN (nq + 1)).swap hblk (first + r) (first + (c + 1)) (by omega) (by omega)
                rw [HG.out (first + r), HG.out (first + (c + 1))]
                exact this
              · rw [← HO.out, sift_go hi first r dk (by omega) (by rw [hk, ← HG.out, ← HG.out]; exact hl), hk]
            case measure => simp [intOf]; omega
        · have hl1 : lt (G (first + c)) (G (first + c + 1)) = false := by assumption
          have hk : kid hi first r dk = c := by rw [kid_c hi first r c dk HCN.out, if_neg (by rw [← HG.out, ← HG.out, hl1]; simp)]
          revert nq
          intro nq1
          have hcell2 : ∀ t, t < d.size → (wr.drewN nq1).cell? ⟨blk, off + t, none⟩ = some (.float .f64 (word (G t).1)) := hcell
          have hfroz2 : ∀ t, t < d.size → (wr.drewN nq1).frozen? ⟨blk, off + t, none⟩ = false := hfroz
          have HR2 : Hid (Row w (wr.drewN nq1) blk off dk) := hide (HR.out.drewN nq1)
          clear hcell hfroz HR
          generalize wr.drewN nq1 = wr2 at hcell2 hfroz2 HR2 ⊢
          go_quiet (first | (go_at_call 91; refine Calls.quiet_of_same (less_any _ _ _)))
          go_wp2_with fail
          · have hl : lt (G (first + r)) (G (first + c)) = false := by
              have : (!lt (G (first + r)) (G (first + c))) = true := by assumption
              simpa using this
            (try simp only [Exit.inBlock, Exit.then])
            refine bodyPost_ret (results_none rfl _ _ _) rfl ?_
            exact ⟨rfl, by rw [← HO.out, sift_stop hi first r dk (by omega) (by rw [hk, ← HG.out, ← HG.out]; exact hl)]; exact HR2.out.drewN nq⟩
          · have hl : lt (G (first + r)) (G (first + c)) = true := by
              have : (!lt (G (first + r)) (G (first + c))) = false := by assumption
              simpa using this
            go_region
            all_goals go_wp2
            go_roundw
            case rel =>
              refine ⟨c, swp dk (first + r) (first + c), by congr 1, by omega, by rw [swp_size]; exact hsk, hide ?_, hide ?_⟩
              · have := (HR2.out.drewN (nq + 1)).swap hblk (first + r) (first + c) (by omega) (by omega)
                rw [HG.out (first + r), HG.out (first + c)]
                exact this
              · rw [← HO.out, sift_go hi first r dk (by omega) (by rw [hk, ← HG.out, ← HG.out]; exact hl), hk]
            case measure => simp [intOf]; omega
      · have hc2i : decide ((c : Int) + 1 < hi) = false := decide_eq_false (by omega)
        have hk : kid hi first r dk = c := by rw [kid_c hi first r c dk HCN.out, if_neg (by simp; omega)]
        go_wp2_with fail
        go_quiet (first | (go_at_call 91; refine Calls.quiet_of_same (less_any _ _ _)))
        go_wp2_with fail
        revert nq
        intro nq1
        have hcell2 : ∀ t, t < d.size → (wr.drewN nq1).cell? ⟨blk, off + t, none⟩ = some (.float .f64 (word (G t).1)) := hcell
        have hfroz2 : ∀ t, t < d.size → (wr.drewN nq1).frozen? ⟨blk, off + t, none⟩ = false := hfroz
        have HR2 : Hid (Row w (wr.drewN nq1) blk off dk) := hide (HR.out.drewN nq1)
        clear hcell hfroz HR
        generalize wr.drewN nq1 = wr2 at hcell2 hfroz2 HR2 ⊢
        go_quiet (first | (go_at_call 91; refine Calls.quiet_of_same (less_any _ _ _)))
        go_wp2_with fail
        · have hl : lt (G (first + r)) (G (first + c)) = false := by
            have : (!lt (G (first + r)) (G (first + c))) = true := by assumption
            simpa using this
          (try simp only [Exit.inBlock, Exit.then])
          refine bodyPost_ret (results_none rfl _ _ _) rfl ?_
          exact ⟨rfl, by rw [← HO.out, sift_stop hi first r dk (by omega) (by rw [hk, ← HG.out, ← HG.out]; exact hl)]; exact HR2.out.drewN nq⟩
        · have hl : lt (G (first + r)) (G (first + c)) = true := by
            have : (!lt (G (first + r)) (G (first + c))) = false := by assumption
            simpa using this
          go_region
          all_goals go_wp2
          go_roundw
          case rel =>
            refine ⟨c, swp dk (first + r) (first + c), by congr 1, by omega, by rw [swp_size]; exact hsk, hide ?_, hide ?_⟩
            · have := (HR2.out.drewN (nq + 1)).swap hblk (first + r) (first + c) (by omega) (by omega)
              rw [HG.out (first + r), HG.out (first + c)]
              exact this
            · rw [← HO.out, sift_go hi first r dk (by omega) (by rw [hk, ← HG.out, ← HG.out]; exact hl), hk]
          case measure => simp [intOf]; omega
end Go.Proofs.YtjcnnjknhemimaaGreatDoor
