/- Contract: spec.Read gives an error, Unsure, or a number of at most eleven digits over 1, 2, 4, 8 or 16. -/
import Derived.Test.YtemeamckdfnlfaaGreatDoorS4
import Derived.Test.YtemeamckdfnlfaaGreatDoorS5
namespace Go.Proofs.YtemeamckdfnlfaaGreatDoor
open Go Go.RowKit
def p10 : Nat → Int | 0 => 1 | j + 1 => 10 * p10 j
theorem p10_le : ∀ j, j < 12 → p10 j ≤ 100000000000 := by decide
theorem p10_pos : ∀ j, 0 < p10 j | 0 => by decide | j + 1 => by have := p10_pos j; simp only [p10]; omega

/-- What spec.Read answers. -/
def ReadOk (k n d : Int) : Prop := k = 4 ∨ k = 6 ∨ (k = 1 ∧ n ≤ 99999999999 ∧ -99999999999 ≤ n ∧ (d = 1 ∨ d = 2 ∨ d = 4 ∨ d = 8 ∨ d = 16))
def RetRead (w : World) (e : Ending) (w' : World) : Prop := ∃ (k n d : Int) (t : ByteArray), ReadOk k n d ∧ e = .returned (.agg #[.int .i64 k, .int .i64 n, .int .i64 d, .string t, .slice none 0 0]) ∧ Below w.heap.size w w'
theorem readOk_numb {k n d : Int} (h : Numb k n d) : ReadOk k n d := by
  unfold Numb at h; unfold ReadOk; omega
theorem readOk_other {k n d : Int} (h : k = 4 ∨ k = 6) : ReadOk k n d := by
  unfold ReadOk; omega

set_option maxHeartbeats 2000000 in
theorem read_any (s : ByteArray) (hs : s.size ≤ 1000) (w : World) : Calls Tryz.prog 215 #[.string s] w (RetRead w) := by
  have hst : (s.size = 0) ∨ (∃ h0 : 0 < s.size, ((s[0].toNat : Int) == 45) = true) ∨ (∃ h0 : 0 < s.size, ((s[0].toNat : Int) == 45) = false) := by
    rcases Nat.eq_zero_or_pos s.size with h | h
    · exact .inl h
    · cases hb : ((s[0].toNat : Int) == 45)
      · exact .inr (.inr ⟨h, hb⟩)
      · exact .inr (.inl ⟨h, hb⟩)
  rcases hst with h0 | ⟨h0, h45⟩ | ⟨h0, h45⟩
  · go_enter Tryz.func215, Tryz.ntmps215
    go_wp2_with fail
    refine wp_loop_once ?_
    go_wp2_with (go_at_call 225; refine (other_any s hs _).mono ?_; rintro e w4 ⟨k4, t4, hk4, rfl, hb4⟩; obtain ⟨hc4, hf4⟩ := bcell hb4; have hz4 : w.heap.size < w4.heap.size := by (have := hb4.size; simp at this; omega))
    (refine bodyPost_ret (v := .agg #[.int .i64 k4, .int .i64 0, .int .i64 0, .string t4, .slice none 0 0]) ?_ rfl ⟨k4, 0, 0, t4, readOk_other hk4, rfl, ?_⟩
     · simp [results, Tryz.results215, go_sem, hc4]; done
     · (repeat' (first | (with_reducible exact Below.refl _ _) | (with_reducible assumption) | (with_reducible refine Below.setCell ?_ ?_ _) | (with_reducible refine Below.alloc ?_ ?_ _) | (with_reducible refine Below.drew ?_) | (with_reducible refine below_drewN ?_ _) | (with_reducible refine Below.trans ?_ (Below.mono (by assumption) ?_)) | (simp <;> omega) | omega)))
  all_goals
    go_enter Tryz.func215, Tryz.ntmps215
    go_wp2_with fail
    go_loop [3, 5, 6, 7, 8] (fun a nn mm dd pp => ∃ (k j : Nat) (n d : Int) (pt : Bool), k ≤ s.size ∧ j ≤ 12 ∧ 0 ≤ n ∧ n < p10 j ∧ 0 ≤ d ∧ d ≤ p10 j ∧ a = .int .i64 k ∧ nn = .int .i64 n ∧ mm = .int .i64 j ∧ dd = .int .i64 d ∧ pp = .bool pt) (fun a _ _ _ _ => s.size - (intOf a).toNat)
    case atStart =>
      first
        | exact ⟨0, 0, 0, 1, false, by omega, by omega, by decide, by decide, by decide, by decide, rfl, rfl, rfl, rfl, rfl⟩
        | exact ⟨1, 0, 0, 1, false, by omega, by omega, by decide, by decide, by decide, by decide, rfl, rfl, rfl, rfl, rfl⟩
    case round =>
      obtain ⟨k, j, n, d, pt, hk, hj, hn0, hn1, hd0, hd1, rfl, rfl, rfl, rfl, rfl⟩ := hrel
      have hle := p10_le j
      have hle2 : p10 j ≤ 1000000000000 := by
        rcases Nat.lt_or_ge j 12 with h | h
        · have := p10_le j h; omega
        · obtain rfl : j = 12 := by omega
          decide
      obtain ⟨Q, hQ⟩ : ∃ Q, Q = p10 j := ⟨_, rfl⟩
      have HS : Hid (p10 (j + 1) = 10 * Q) := hide (by rw [hQ]; rfl)
      rw [← hQ] at hn1 hd1 hle hle2
      have HP := hide hQ
      clear hQ
      by_cases hlt : k < s.size
      · have hb8 := s[k].toNat_lt
        by_cases hdig : 48 ≤ (s[k].toNat : Int) ∧ (s[k].toNat : Int) ≤ 57 ∧ j < 12
        · obtain ⟨g1, g2, g3⟩ := hdig
          have g4 := hle g3
          clear hle
          cases pt
          all_goals
            go_wp2_with fail
            go_round
            case rel =>
              first
                | exact ⟨k + 1, j + 1, _, _, false, by omega, by omega, by omega, by rw [HS.out]; omega, by omega, by rw [HS.out]; omega, by go_num, rfl, by go_num, rfl, rfl⟩
                | exact ⟨k + 1, j + 1, _, _, true, by omega, by omega, by omega, by rw [HS.out]; omega, by omega, by rw [HS.out]; omega, by go_num, rfl, by go_num, rfl, rfl⟩
            case measure => simp [intOf]; omega
        · have hng : (s[k].toNat : Int) < 48 ∨ (48 ≤ (s[k].toNat : Int) ∧ 57 < (s[k].toNat : Int)) ∨ (48 ≤ (s[k].toNat : Int) ∧ (s[k].toNat : Int) ≤ 57 ∧ ¬ ((j : Int) < 12)) := by omega
          clear hdig hle
          rcases hng with g1 | ⟨g1, g2⟩ | ⟨g1, g2, g3⟩
          all_goals
            cases pt
            all_goals
              go_wp2_with (go_at_call 225; refine (other_any s hs _).mono ?_; rintro e w4 ⟨k4, t4, hk4, rfl, hb4⟩; obtain ⟨hc4, hf4⟩ := bcell hb4; have hz4 : w.heap.size < w4.heap.size := by (have := hb4.size; simp at this; omega))
              all_goals first
                | (go_round
                   case rel => exact ⟨k + 1, j, _, _, true, by omega, by omega, hn0, by rw [← HP.out]; exact hn1, hd0, by rw [← HP.out]; exact hd1, by go_num, rfl, rfl, rfl, rfl⟩
                   case measure => simp [intOf]; omega)
                | (refine bodyPost_ret (v := .agg #[.int .i64 k4, .int .i64 0, .int .i64 0, .string t4, .slice none 0 0]) ?_ rfl ⟨k4, 0, 0, t4, readOk_other hk4, rfl, ?_⟩
                   · simp [results, Tryz.results215, go_sem, hc4]; done
                   · (repeat' (first | (with_reducible exact Below.refl _ _) | (with_reducible assumption) | (with_reducible refine Below.setCell ?_ ?_ _) | (with_reducible refine Below.alloc ?_ ?_ _) | (with_reducible refine Below.drew ?_) | (with_reducible refine below_drewN ?_ _) | (with_reducible refine Below.trans ?_ (Below.mono (by assumption) ?_)) | (simp <;> omega) | omega)))
      · obtain rfl : k = s.size := by omega
        clear hlt hle
        go_wp2_with (first
          | (go_at_call 225; refine (other_any s hs _).mono ?_; rintro e w4 ⟨k4, t4, hk4, rfl, hb4⟩; obtain ⟨hc4, hf4⟩ := bcell hb4; have hz4 : w.heap.size < w4.heap.size := by (have := hb4.size; simp at this; omega))
          | (go_at_call 39; refine (frac_pos _ _ (by omega) (by omega) (by omega) _).mono ?_; rintro e w4 ⟨k4, n4, d4, hk4, rfl, hb4⟩; obtain ⟨hc4, hf4⟩ := bcell hb4; have hz4 : w.heap.size < w4.heap.size := by (have := hb4.size; simp at this; omega)))
        all_goals first
          | (refine bodyPost_ret (v := .agg #[.int .i64 k4, .int .i64 0, .int .i64 0, .string t4, .slice none 0 0]) ?_ rfl ⟨k4, 0, 0, t4, readOk_other hk4, rfl, ?_⟩
             · simp [results, Tryz.results215, go_sem, hc4]; done
             · (repeat' (first | (with_reducible exact Below.refl _ _) | (with_reducible assumption) | (with_reducible refine Below.setCell ?_ ?_ _) | (with_reducible refine Below.alloc ?_ ?_ _) | (with_reducible refine Below.drew ?_) | (with_reducible refine below_drewN ?_ _) | (with_reducible refine Below.trans ?_ (Below.mono (by assumption) ?_)) | (simp <;> omega) | omega)))
          | (refine bodyPost_ret (v := .agg #[.int .i64 k4, .int .i64 n4, .int .i64 d4, .string ⟨#[]⟩, .slice none 0 0]) ?_ rfl ⟨k4, n4, d4, _, readOk_numb hk4, rfl, ?_⟩
             · simp [results, Tryz.results215, go_sem, hc4]; done
             · (repeat' (first | (with_reducible exact Below.refl _ _) | (with_reducible assumption) | (with_reducible refine Below.setCell ?_ ?_ _) | (with_reducible refine Below.alloc ?_ ?_ _) | (with_reducible refine Below.drew ?_) | (with_reducible refine below_drewN ?_ _) | (with_reducible refine Below.trans ?_ (Below.mono (by assumption) ?_)) | (simp <;> omega) | omega)))
end Go.Proofs.YtemeamckdfnlfaaGreatDoor
