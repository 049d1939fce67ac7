/- The walks of slices.Sort and sort.Float64s at fewer than fifty doubles: the row is the plain sort's. -/
import Derived.Test.YtjcnnjknhemimaaGreatDoorQb
namespace Go.Proofs.YtjcnnjknhemimaaGreatDoor
open Go Go.RowKit Go.Sort Ieee Fl
set_option maxRecDepth 100000 in
theorem slicesSort_any (blk off cap : Nat) (d : Array Sm) (w : World) (hH : Holds enc w blk off d) (hblk : blk < w.heap.size) (hsz : d.size < 50) :
    Calls Tryz.prog 70 #[.slice (some ⟨blk, off, none⟩) d.size cap] w fun e w' => e = .returned (.tuple #[]) ∧ Row w w' blk off (Sort.sort lt d) := by
  have HH := hide hH
  clear hH
  have hLen := fun w => len_bits d.size hsz w
  have hk : bitsLen d.size ≤ 62 := (bitsLen_le_iff d.size 62).2 (by omega)
  have HP := hide (pdqsort_any (d.size + 1) blk off cap 0 d.size (bitsLen d.size) d w (by omega) HH.out hblk (Nat.zero_le _) (Nat.le_refl _) hsz (by omega) (Or.inl rfl))
  go_enter Tryz.func70, Tryz.ntmps70
  go_wp2_with (first
    | (go_at_call 77; refine (hLen _).mono ?_; rintro e w' ⟨rfl, rfl⟩)
    | (go_at_call 76; refine HP.out.mono ?_; rintro e w' ⟨rfl, hw⟩))
  go_end0
  exact ⟨rfl, hw⟩
theorem float64s_any (blk off cap : Nat) (d : Array Sm) (w : World) (hH : Holds enc w blk off d) (hblk : blk < w.heap.size) (hsz : d.size < 50) :
    Calls Tryz.prog 52 #[.slice (some ⟨blk, off, none⟩) d.size cap] w fun e w' => e = .returned (.tuple #[]) ∧ Row w w' blk off (Sort.sort lt d) := by
  have HP := hide (slicesSort_any blk off cap d w hH hblk hsz)
  clear hH
  go_enter Tryz.func52, Tryz.ntmps52
  go_wp2_with (go_at_call 70; refine HP.out.mono ?_; rintro e w' ⟨rfl, hw⟩)
  go_end0
  exact ⟨rfl, hw⟩
/-- What the row holds then: the same numbers, none less than an earlier one. -/
theorem sort_law (d : Array Sm) : (Sort.sort lt d).size = d.size ∧ (Sort.sort lt d).toList.Perm d.toList ∧ ∀ i j, i < j → j < d.size → lt (Sort.sort lt d)[j]! (Sort.sort lt d)[i]! = false := by
  obtain ⟨⟨h1, _, h3⟩, h4⟩ := sort_sorts lt lt_swo d
  refine ⟨h1, ?_, fun i j hij hj => h4 i j (Nat.zero_le _) hij hj⟩
  have e1 : (Sort.sort lt d).extract 0 d.size = Sort.sort lt d := by rw [← h1]; exact Array.extract_size
  have e2 : d.extract 0 d.size = d := Array.extract_size
  rwa [e1, e2] at h3
/-- All but the row's block is as it was. -/
theorem Row.below {w wr : World} {blk off B : Nat} {d : Array Sm} (h : Row w wr blk off d) (hB : B ≤ blk) (hblk : blk < w.heap.size) : _root_.Go.RowKit.Below B w wr := by
  refine ⟨?_, ?_, ?_, h.size, fun b hb => h.far b (by omega) (by omega)⟩
  all_goals
    obtain ⟨n, os, rfl⟩ := h
    rfl
end Go.Proofs.YtjcnnjknhemimaaGreatDoor
