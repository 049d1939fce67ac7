/- The walk of slices.insertionSortOrdered at doubles: what it leaves is the plain function's row. -/
import Derived.Test.YtjcnnjknhemimaaGreatDoorQ2
namespace Go.Proofs.YtjcnnjknhemimaaGreatDoor
open Go Go.RowKit Go.Sort Ieee Fl
attribute [local go_sem] run_store_float
theorem ins_go (a j : Nat) (d : Array Sm) (hj : a < j) (hl : lt d[j]! d[j - 1]! = true) : insInner lt a j d = insInner lt a (j - 1) (swp d j (j - 1)) := by
  cases j with
  | zero => omega
  | succ k =>
    simp only [Nat.add_sub_cancel] at hl ⊢
    conv => lhs; unfold insInner
    rw [if_pos (by simp [hl]; omega)]
theorem ins_stop (a j : Nat) (d : Array Sm) (h : j ≤ a ∨ lt d[j]! d[j - 1]! = false) : insInner lt a j d = d := by
  cases j with
  | zero => rfl
  | succ k =>
    unfold insInner
    rw [if_neg]
    intro hc
    simp only [Nat.add_sub_cancel] at h
    simp only [gt_iff_lt, Bool.and_eq_true, decide_eq_true_eq] at hc
    rcases h with h | h
    · omega
    · rw [h] at hc
      exact absurd hc.2 (by decide)
theorem swp_size (d : Array Sm) (i j : Nat) : (swp d i j).size = d.size := by simp [swp]
set_option maxHeartbeats 2000000 in
theorem insertion_any (blk off cap a b : Nat) (d : Array Sm) (w : World) (hH : Holds enc w blk off d) (hblk : blk < w.heap.size) (hab : a ≤ b) (hb : b ≤ d.size) (hsz : d.size ≤ 1000) :
    Calls Tryz.prog 85 #[.slice (some ⟨blk, off, none⟩) d.size cap, .int .i64 a, .int .i64 b] w fun e w' => e = .returned (.tuple #[]) ∧ Row w w' blk off (insertionSort lt d a b) := by
  have HH := hide hH
  go_enter Tryz.func85, Tryz.ntmps85
  go_wp2_with fail
  go_loopw [6] (fun vi wr => ∃ (i : Nat) (dk : Array Sm), vi = .int .i64 i ∧ a < i ∧ i ≤ b + 1 ∧ dk.size = d.size ∧ Hid (Row w wr blk off dk) ∧ Hid (insOuter lt a b i dk = insertionSort lt d a b)) (fun vi _ => b + 1 - (intOf vi).toNat)
  case atStart => exact ⟨a + 1, d, by go_num, by omega, by omega, rfl, hide (Row.start hH), hide rfl⟩
  case round =>
    obtain ⟨i, dk, rfl, hai, hib, hsk, HR, HO⟩ := hrel
    clear hH
    by_cases hib2 : i < b
    · go_wp2_with fail
      go_loopw [7] (fun vj wr2 => ∃ (j : Nat) (dj : Array Sm), vj = .int .i64 j ∧ a ≤ j ∧ j ≤ i ∧ dj.size = d.size ∧ Hid (Row w wr2 blk off dj) ∧ Hid (insInner lt a j dj = insInner lt a i dk)) (fun vj _ => (intOf vj).toNat)
      case atStart => exact ⟨i, dk, rfl, by omega, Nat.le_refl _, hsk, HR, hide rfl⟩
      case round =>
        obtain ⟨j, dj, rfl, haj, hji, hsj, HR2, HI⟩ := hrel
        -- the inner loop's end is the outer round's end
        have HD : Hid ((j ≤ a ∨ lt dj[j]! dj[j - 1]! = false) → ∀ q, ∃ (i' : Nat) (dk' : Array Sm), Value.int .i64 ((i : Int) + 1) = .int .i64 (i' : Nat) ∧ a < i' ∧ i' ≤ b + 1 ∧ dk'.size = d.size ∧ Hid (Row w (wr.drewN q) blk off dk') ∧ Hid (insOuter lt a b i' dk' = insertionSort lt d a b)) := hide fun hs q =>
          ⟨i + 1, dj, by go_num, by omega, by omega, hsj, hide (HR2.out.drewN q), hide (by
            have h1 := HO.out
            rw [insOuter, if_pos hib2] at h1
            rw [← h1, ← HI.out, ins_stop a j dj hs])⟩
        obtain ⟨G, hG⟩ : ∃ G : Nat → Sm, ∀ t, G t = dj[t]! := ⟨fun t => dj[t]!, fun _ => rfl⟩
        have hcell : ∀ t, t < d.size → wr.cell? ⟨blk, off + t, none⟩ = some (.float .f64 (word (G t).1)) := fun t ht => by
          rw [hG]; exact HR2.out.cell HH.out hblk hsj t (by omega)
        have hfroz : ∀ t, t < d.size → wr.frozen? ⟨blk, off + t, none⟩ = false := fun t ht => HR2.out.frozen HH.out hblk hsj t (by omega)
        have HG := hide hG
        clear hG
        go_wp2_with fail
        by_cases hja : a < j
        · go_quiet (first | (go_at_call 91; refine Calls.quiet_of_same (less_any _ _ _)))
          go_wp2
          · have hl : lt (G j) (G (j - 1)) = true := by assumption
            go_region
            all_goals go_wp2
            go_roundw
            case rel =>
              refine ⟨j - 1, swp dj j (j - 1), by congr 1; omega, by omega, by omega, by rw [swp_size]; exact hsj, hide ?_, hide ?_⟩
              · have := (HR2.out.drewN (nq + 1)).swap hblk j (j - 1) (by omega) (by omega)
                rw [HG.out (j - 1), HG.out j]
                exact this
              · rw [← HI.out, ins_go a j dj hja (by rw [← HG.out, ← HG.out]; exact hl)]
            case measure => simp [intOf]; omega
          · have hl : lt (G j) (G (j - 1)) = false := by assumption
            go_roundw
            case rel => exact HD.out (Or.inr (by rw [← HG.out, ← HG.out]; exact hl)) nq
            case measure => simp [intOf]; omega
        · go_quiet (first | (go_at_call 91; refine Calls.quiet_of_same (less_any _ _ _)))
          go_wp2
          go_roundw
          case rel => exact HD.out (Or.inl (by omega)) nq
          case measure => simp [intOf]; omega
    · go_wp2_with fail
      go_end0
      exact ⟨rfl, by rw [← HO.out, insOuter, if_neg hib2]; exact HR.out⟩
end Go.Proofs.YtjcnnjknhemimaaGreatDoor
