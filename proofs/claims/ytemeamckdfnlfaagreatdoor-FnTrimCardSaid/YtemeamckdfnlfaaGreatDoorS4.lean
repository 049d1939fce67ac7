/- Contracts: spec.Same of values without rows, spec.letters, spec.Digits, spec.Plain of a whole number. -/
import Derived.Test.YtemeamckdfnlfaaGreatDoorS3
namespace Go.Proofs.YtemeamckdfnlfaaGreatDoor
open Go Go.RowKit
set_option maxHeartbeats 400000 in
theorem same_flat (k n d k' n' d' : Int) (t t' : ByteArray) (w : World) : Calls Tryz.prog 167 #[.agg #[.int .i64 k, .int .i64 n, .int .i64 d, .string t, .slice none 0 0], .agg #[.int .i64 k', .int .i64 n', .int .i64 d', .string t', .slice none 0 0]] w (SomeBool w) := by
  go_enter Tryz.func167, Tryz.ntmps167
  go_wp2_with fail
  all_goals first
    | (go_ret; exact ⟨_, rfl, by (repeat' (first | (with_reducible exact Below.refl _ _) | (with_reducible assumption) | (with_reducible refine Below.setCell ?_ ?_ _) | (with_reducible refine Below.alloc ?_ ?_ _) | (with_reducible refine Below.drew ?_) | (with_reducible refine below_drewN ?_ _) | (with_reducible refine Below.trans ?_ (Below.mono (by assumption) ?_)) | (simp <;> omega) | omega))⟩)
    | (refine wp_loop_once ?_; go_wp2_with fail; go_ret; exact ⟨_, rfl, by (repeat' (first | (with_reducible exact Below.refl _ _) | (with_reducible assumption) | (with_reducible refine Below.setCell ?_ ?_ _) | (with_reducible refine Below.alloc ?_ ?_ _) | (with_reducible refine Below.drew ?_) | (with_reducible refine below_drewN ?_ _) | (with_reducible refine Below.trans ?_ (Below.mono (by assumption) ?_)) | (simp <;> omega) | omega))⟩)

theorem letters_any (s : ByteArray) (hs : s.size ≤ 1000) (w : World) : Calls Tryz.prog 161 #[.string s] w (SomeBool w) := by
  go_enter Tryz.func161, Tryz.ntmps161
  go_wp2_with (first
    | (go_at_call 225; refine (other_any s hs _).mono ?_; rintro e w1 ⟨k, t, _, rfl, hb1⟩; have hz1 := hb1.size)
    | (go_at_call 27; refine (err_any _ _).mono ?_; rintro e w2 ⟨rfl, hb2⟩; have hz2 := hb2.size)
    | (go_at_call 167; refine (same_flat _ _ _ _ _ _ _ _ _).mono ?_; rintro e w3 ⟨b, rfl, hb3⟩))
  go_ret
  exact ⟨_, rfl, by (repeat' (first | (with_reducible exact Below.refl _ _) | (with_reducible assumption) | (with_reducible refine Below.setCell ?_ ?_ _) | (with_reducible refine Below.alloc ?_ ?_ _) | (with_reducible refine Below.drew ?_) | (with_reducible refine below_drewN ?_ _) | (with_reducible refine Below.trans ?_ (Below.mono (by assumption) ?_)) | (simp <;> omega) | omega))⟩

set_option maxHeartbeats 400000 in
theorem digits_any (m : Nat) : ∀ w : World, m ≤ 4611686018427387904 → Calls Tryz.prog 184 #[.int .i64 m, .int .i64 10] w fun e w' => ∃ (s : ByteArray), s.size ≤ m + 1 ∧ e = .returned (.string s) ∧ ∃ n, w' = w.drewN n := by
  induction m using Nat.strongRecOn with
  | _ m ih =>
  intro w hm
  have h0 : (0 : Int) ≤ (m : Int) % 10 := by omega
  have h1 : (m : Int) % 10 < 10 := by omega
  go_enter Tryz.func184, Tryz.ntmps184
  go_wp2_with fail
  go_quiet (fail)
  obtain ⟨x, hx, hxs⟩ : ∃ x : ByteArray, x = (ByteArray.mk #[48, 49, 50, 51, 52, 53, 54, 55, 56, 57, 65, 66, 67, 68, 69, 70, 71, 72, 73, 74, 75, 76, 77, 78, 79, 80, 81, 82, 83, 84, 85, 86, 87, 88, 89, 90]).extract (m % 10) (m % 10 + 1) ∧ x.size ≤ 1 := ⟨_, rfl, by rw [ByteArray.size_extract]; omega⟩
  rw [← hx]
  clear hx
  by_cases hlt : (m : Int) < 10
  · go_wp2_with fail
    go_ret
    exact ⟨_, by omega, rfl, _, rfl⟩
  · go_wp2_with fail
    rw [show (m : Int) / 10 = ((m / 10 : Nat) : Int) from by omega]
    refine (ih (m / 10) (by omega) _ (by omega)).mono ?_
    rintro e w1 ⟨s, hs, rfl, n1, rfl⟩
    have hsum : s.size + x.size ≤ 9223372036854775807 := by omega
    go_wp2_with fail
    go_ret
    exact ⟨s ++ x, by rw [ByteArray.size_append]; omega, rfl, _, rfl⟩

/-- spec.Plain of a whole number. -/
theorem plain_whole (n : Int) (t : ByteArray) (h1 : n ≤ 99999999999) (h2 : -99999999999 ≤ n) (w : World) :
    Calls Tryz.prog 223 #[.agg #[.int .i64 1, .int .i64 n, .int .i64 1, .string t, .slice none 0 0]] w (SomeText w) := by
  by_cases hn : n < 0
  · obtain ⟨m, hm⟩ : ∃ m : Nat, -n = (m : Int) := ⟨(-n).toNat, by omega⟩
    have hmb : m ≤ 99999999999 := by omega
    have hw : wrap64 (-n) = -n := by unfold wrap64; omega
    have HM := hide hm
    clear hm
    go_enter Tryz.func223, Tryz.ntmps223
    go_wp2_with fail
    rw [HM.out]
    refine (digits_any m _ (by omega)).mono ?_
    rintro e w1 ⟨s, hs, rfl, n1, rfl⟩
    have hsz : 1 + s.size ≤ 9223372036854775807 := by omega
    go_wp2_with fail
    go_ret
    exact ⟨_, rfl, by (repeat' (first | (with_reducible exact Below.refl _ _) | (with_reducible assumption) | (with_reducible refine Below.setCell ?_ ?_ _) | (with_reducible refine Below.alloc ?_ ?_ _) | (with_reducible refine Below.drew ?_) | (with_reducible refine below_drewN ?_ _) | (with_reducible refine Below.trans ?_ (Below.mono (by assumption) ?_)) | (simp <;> omega) | omega))⟩
  · obtain ⟨m, rfl⟩ : ∃ m : Nat, n = (m : Int) := ⟨n.toNat, by omega⟩
    clear h2
    go_enter Tryz.func223, Tryz.ntmps223
    go_wp2_with fail
    refine (digits_any m _ (by omega)).mono ?_
    rintro e w1 ⟨s, hs, rfl, n1, rfl⟩
    go_wp2_with fail
    go_ret
    exact ⟨_, rfl, by (repeat' (first | (with_reducible exact Below.refl _ _) | (with_reducible assumption) | (with_reducible refine Below.setCell ?_ ?_ _) | (with_reducible refine Below.alloc ?_ ?_ _) | (with_reducible refine Below.drew ?_) | (with_reducible refine below_drewN ?_ _) | (with_reducible refine Below.trans ?_ (Below.mono (by assumption) ?_)) | (simp <;> omega) | omega))⟩

end Go.Proofs.YtemeamckdfnlfaaGreatDoor
