/- The walk of slices.partialInsertionSortOrdered at doubles, for rows shorter than fifty: it looks whether the row is sorted and shifts nothing. -/
import Derived.Test.YtjcnnjknhemimaaGreatDoorQ3
import Derived.Deep.Cut
import Derived.Deep.CutRange
import Derived.Deep.CutBlock
namespace Go.Proofs.YtjcnnjknhemimaaGreatDoor
open Go Go.RowKit Go.Sort Ieee Fl
attribute [local go_sem] run_store_float
theorem sorted_go (d : Array Sm) (b i : Nat) (h : i < b) (hl : lt d[i]! d[i - 1]! = false) : scanSorted lt d b i = scanSorted lt d b (i + 1) := by
  rw [scanSorted, if_pos (by simp [h, hl])]
theorem sorted_end (d : Array Sm) (b i : Nat) (h : ¬ i < b ∨ lt d[i]! d[i - 1]! = true) : scanSorted lt d b i = i := by
  rw [scanSorted, if_neg (by rcases h with h | h <;> simp [h])]
theorem partial_short (d : Array Sm) (a b : Nat) (h : b - a < 50) : partialInsertionSort lt d a b = (d, decide (scanSorted lt d b (a + 1) = b)) := by
  unfold partialInsertionSort
  rw [partialIns]
  simp only []
  by_cases e : scanSorted lt d b (a + 1) = b
  · rw [if_pos e, decide_eq_true e]
  · rw [if_neg e, if_pos h, decide_eq_false e]
set_option maxHeartbeats 2000000 in
set_option maxRecDepth 100000 in
theorem partial_any (blk off cap a b : Nat) (d : Array Sm) (w : World) (hH : Holds enc w blk off d) (hblk : blk < w.heap.size) (hab : a < b) (hb : b ≤ d.size) (hsz : d.size ≤ 1000) (h50 : b - a < 50) :
    Calls Tryz.prog 90 #[.slice (some ⟨blk, off, none⟩) d.size cap, .int .i64 a, .int .i64 b] w fun e w' => e = .returned (.bool (partialInsertionSort lt d a b).2) ∧ Row w w' blk off (partialInsertionSort lt d a b).1 := by
  rw [partial_short d a b h50]
  show Calls _ _ _ w fun e w' => e = .returned (.bool (decide (scanSorted lt d b (a + 1) = b))) ∧ Row w w' blk off d
  have HH := hide hH
  have HR := hide (Row.start hH)
  have h50z : (b : Int) - (a : Int) < 50 := by omega
  obtain ⟨G, hG⟩ : ∃ G : Nat → Sm, ∀ t, G t = d[t]! := ⟨fun t => d[t]!, fun _ => rfl⟩
  have HG := hide hG
  clear hH hG
  obtain ⟨i, hi⟩ : ∃ i : Nat, (a : Int) + 1 = i := ⟨a + 1, by omega⟩
  have hai : i = a + 1 := by omega
  have HS : Hid (scanSorted lt d b (a + 1) = scanSorted lt d b i) := hide (by rw [hai])
  have ha0 : 0 < i := by omega
  have hib : i ≤ b := by omega
  clear hai
  go_enter Tryz.func90, Tryz.ntmps90
  go_wp2_with fail
  refine wp_loop_once ?_
  go_upto_block 2 with (fail)
  go_cut [7] from 17 to 34 (fun vx wx => ∃ (y : Nat), vx = .int .i64 y ∧ i ≤ y ∧ y ≤ b ∧ Hid (Row w wx blk off d) ∧ Hid (y = scanSorted lt d b i))
  case first =>
    go_wp2_with fail
    go_loopw [7] (fun vx wx => ∃ (y : Nat), vx = .int .i64 y ∧ i ≤ y ∧ y ≤ b ∧ Hid (Row w wx blk off d) ∧ Hid (scanSorted lt d b y = scanSorted lt d b i)) (fun vx _ => b + 1 - (intOf vx).toNat)
    case atStart => exact ⟨i, rfl, by omega, by omega, HR, hide rfl⟩
    case round =>
      obtain ⟨y, rfl, hb1, hb2, HR1, HS1⟩ := hrel
      have hcell : ∀ t, t < d.size → wr.cell? ⟨blk, off + t, none⟩ = some (.float .f64 (word (G t).1)) := fun t ht => by
        rw [HG.out]; exact HR1.out.cell HH.out hblk rfl t (by omega)
      by_cases hle : y < b
      · have hlei : (y : Int) < b := by omega
        go_wp2_with fail
        go_quiet (first | (go_at_call 91; refine Calls.quiet_of_same (less_any _ _ _)))
        go_wp2
        · have ht : lt (G y) (G (y - 1)) = false := by
            have h0 : (!lt (G y) (G (y - 1))) = true := by assumption
            simpa using h0
          go_roundw
          case rel => exact ⟨y + 1, by go_num, by omega, by omega, hide (HR1.out.drewN nq), hide ((sorted_go d b y hle (by rw [← HG.out, ← HG.out]; exact ht)).symm.trans HS1.out)⟩
          case measure => (simp [intOf] <;> omega)
        · have ht : lt (G y) (G (y - 1)) = true := by
            have h0 : (!lt (G y) (G (y - 1))) = false := by assumption
            simpa using h0
          go_meet
          case rel => exact ⟨y, rfl, hb1, hb2, hide (HR1.out.drewN nq), hide ((sorted_end d b y (Or.inr (by rw [← HG.out, ← HG.out]; exact ht))).symm.trans HS1.out)⟩
      · have hlei : decide ((y : Int) < b) = false := decide_eq_false (by omega)
        go_wp2_with fail
        go_quiet (first | (go_at_call 91; refine Calls.quiet_of_same (less_any _ _ _)))
        go_wp2
        go_meet
        case rel => exact ⟨y, rfl, hb1, hb2, hide (HR1.out.drewN nq), hide ((sorted_end d b y (Or.inl hle)).symm.trans HS1.out)⟩
  case rest =>
    obtain ⟨y, rfl, hya, hyb, HR, HSy⟩ := hcut
    by_cases he : y = b
    · have hev : decide (scanSorted lt d b (a + 1) = b) = true := decide_eq_true (by rw [HS.out, ← HSy.out]; exact he)
      have HEV := hide hev
      clear hev
      subst he
      go_wp2_with fail
      go_ret
      exact ⟨by rw [HEV.out]; rfl, HR.out⟩
    · have hev : decide (scanSorted lt d b (a + 1) = b) = false := decide_eq_false (by rw [HS.out, ← HSy.out]; exact he)
      have HEV := hide hev
      clear hev
      have hez : ((y : Int) == (b : Int)) = false := by simp; omega
      go_wp2_with fail
      go_ret
      exact ⟨by rw [HEV.out]; rfl, HR.out⟩
end Go.Proofs.YtjcnnjknhemimaaGreatDoor
