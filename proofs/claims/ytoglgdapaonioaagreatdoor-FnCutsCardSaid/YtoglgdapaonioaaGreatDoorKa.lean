/- The walk of laws.FnCuts for every input: where a guard strikes, and where none does. -/
import Derived.Test.YtoglgdapaonioaaGreatDoorK9
namespace Go.Proofs.YtoglgdapaonioaaGreatDoor
open Go Go.RowKit
set_option maxRecDepth 100000 in
set_option maxHeartbeats 1000000 in
theorem cuts_long (t : ByteArray) (h : ¬ t.size ≤ 1000) (i k : Int) (w : World) : Calls Tryz.prog 3 #[.string t, .int .i64 i, .int .i64 k] w fun e w' => e = .returned (.bool true) ∧ Below w.heap.size w w' := by
  have hd : decide (t.size ≤ 1000) = false := by simpa using h
  go_enter Tryz.func3, Tryz.ntmps3
  go_wp2_with (go_at_call 4; refine (short_one t w.heap.size 1 _ (by simp)).mono ?_; rintro e w1 ⟨rfl, rfl⟩; rw [hd])
  all_goals
    go_ret
    exact ⟨rfl, by (repeat' (first | (with_reducible exact Below.refl _ _) | (with_reducible assumption) | (with_reducible refine Below.setCell ?_ ?_ _) | (with_reducible refine Below.alloc ?_ ?_ _) | (with_reducible refine Below.drew ?_) | (with_reducible refine below_drewN ?_ _) | (with_reducible refine Below.trans ?_ (Below.mono (by assumption) ?_)) | (simp <;> omega) | omega))⟩
set_option maxRecDepth 100000 in
set_option maxHeartbeats 1000000 in
theorem cuts_odd (t : ByteArray) (ht : t.size ≤ 1000) (h : asciiB t = false) (i k : Int) (w : World) : Calls Tryz.prog 3 #[.string t, .int .i64 i, .int .i64 k] w fun e w' => e = .returned (.bool true) ∧ Below w.heap.size w w' := by
  have hd : decide (t.size ≤ 1000) = true := by simpa using ht
  have HA := hide h
  clear h
  go_enter Tryz.func3, Tryz.ntmps3
  go_wp2_with (first
    | (go_at_call 4; refine (short_one t w.heap.size 1 _ (by simp)).mono ?_; rintro e w1 ⟨rfl, rfl⟩; rw [hd])
    | (go_at_call 5; refine (ascii_any t ht _).mono ?_; rintro e w1 ⟨rfl, rfl⟩; rw [HA.out]))
  all_goals
    go_ret
    exact ⟨rfl, by (repeat' (first | (with_reducible exact Below.refl _ _) | (with_reducible assumption) | (with_reducible refine Below.setCell ?_ ?_ _) | (with_reducible refine Below.alloc ?_ ?_ _) | (with_reducible refine Below.drew ?_) | (with_reducible refine below_drewN ?_ _) | (with_reducible refine Below.trans ?_ (Below.mono (by assumption) ?_)) | (simp <;> omega) | omega))⟩
set_option maxRecDepth 100000 in
set_option maxHeartbeats 1000000 in
theorem cuts_out (t : ByteArray) (ht : t.size ≤ 1000) (h : asciiB t = true) (i k : Int) (hi1 : -9223372036854775808 ≤ i) (hi2 : i ≤ 9223372036854775807) (hk1 : -9223372036854775808 ≤ k) (hk2 : k ≤ 9223372036854775807) (hik : i < 0 ∨ k < 0 ∨ (t.size : Int) < i ∨ (0 ≤ i ∧ i ≤ (t.size : Int) ∧ (t.size : Int) - i < k)) (w : World) : Calls Tryz.prog 3 #[.string t, .int .i64 i, .int .i64 k] w fun e w' => e = .returned (.bool true) ∧ Below w.heap.size w w' := by
  have hd : decide (t.size ≤ 1000) = true := by simpa using ht
  have HA := hide h
  clear h
  rcases hik with hi | hi | hi | ⟨hi, hi3, hi4⟩
  all_goals
    go_enter Tryz.func3, Tryz.ntmps3
    go_wp2_with (first
      | (go_at_call 4; refine (short_one t w.heap.size 1 _ (by simp)).mono ?_; rintro e w1 ⟨rfl, rfl⟩; rw [hd])
      | (go_at_call 5; refine (ascii_any t ht _).mono ?_; rintro e w1 ⟨rfl, rfl⟩; rw [HA.out]))
    all_goals
      go_ret
      exact ⟨rfl, by (repeat' (first | (with_reducible exact Below.refl _ _) | (with_reducible assumption) | (with_reducible refine Below.setCell ?_ ?_ _) | (with_reducible refine Below.alloc ?_ ?_ _) | (with_reducible refine Below.drew ?_) | (with_reducible refine below_drewN ?_ _) | (with_reducible refine Below.trans ?_ (Below.mono (by assumption) ?_)) | (simp <;> omega) | omega))⟩
theorem fnCuts_any (t : ByteArray) (i k : Int) (hi1 : -9223372036854775808 ≤ i) (hi2 : i ≤ 9223372036854775807) (hk1 : -9223372036854775808 ≤ k) (hk2 : k ≤ 9223372036854775807) (w : World) :
    Calls Tryz.prog 3 #[.string t, .int .i64 i, .int .i64 k] w fun e w' => e = .returned (.bool true) ∧ Below w.heap.size w w' := by
  by_cases ht : t.size ≤ 1000
  · by_cases ha : asciiB t = true
    · by_cases hik : 0 ≤ i ∧ 0 ≤ k ∧ i + k ≤ (t.size : Int)
      · obtain ⟨a, rfl⟩ := Int.eq_ofNat_of_zero_le hik.1
        obtain ⟨b, rfl⟩ := Int.eq_ofNat_of_zero_le hik.2.1
        exact cuts_good t ht ha a b (by omega) w
      · exact cuts_out t ht ha i k hi1 hi2 hk1 hk2 (by omega) w
    · exact cuts_odd t ht (by simpa using ha) i k w
  · exact cuts_long t ht i k w
end Go.Proofs.YtoglgdapaonioaaGreatDoor
