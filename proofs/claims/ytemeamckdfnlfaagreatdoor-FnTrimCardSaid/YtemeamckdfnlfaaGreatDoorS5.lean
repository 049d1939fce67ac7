/- Contract: spec.Frac gives Unsure, or a number of at most eleven digits over 1, 2, 4, 8 or 16. -/
import Derived.Test.YtemeamckdfnlfaaGreatDoorS1
namespace Go.Proofs.YtemeamckdfnlfaaGreatDoor
open Go Go.RowKit

/-- A value of the reference that is a number as the reference makes them, or Unsure. -/
def Numb (k n d : Int) : Prop := (k = 6 ∧ n = 0 ∧ d = 0) ∨ (k = 1 ∧ n ≤ 99999999999 ∧ -99999999999 ≤ n ∧ (d = 1 ∨ d = 2 ∨ d = 4 ∨ d = 8 ∨ d = 16))
def RetNumb (w : World) (e : Ending) (w' : World) : Prop := ∃ (k n d : Int), Numb k n d ∧ e = .returned (.agg #[.int .i64 k, .int .i64 n, .int .i64 d, .string ⟨#[]⟩, .slice none 0 0]) ∧ Below w.heap.size w w'
set_option maxHeartbeats 1000000 in
theorem frac_pos (n d : Int) (hd : 0 ≤ d) (hn1 : n ≤ 9223372036854775807) (hn2 : -9223372036854775808 ≤ n) (w : World) : Calls Tryz.prog 39 #[.int .i64 n, .int .i64 d] w (RetNumb w) := by
  by_cases hdz : d = 0
  · subst hdz
    go_enter Tryz.func39, Tryz.ntmps39
    go_wp2_with (go_at_call 43; refine (doubt_any _).mono ?_; rintro e w4 ⟨rfl, hb4⟩; obtain ⟨hc4, hf4⟩ := bcell hb4; have hz4 : w.heap.size < w4.heap.size := by (have := hb4.size; simp at this; omega))
    refine bodyPost_ret (v := .agg #[.int .i64 6, .int .i64 0, .int .i64 0, .string ⟨#[]⟩, .slice none 0 0]) ?_ rfl ⟨6, 0, 0, .inl ⟨rfl, rfl, rfl⟩, rfl, ?_⟩
    · simp [results, Tryz.results39, go_sem, *]
    · (repeat' (first | (with_reducible exact Below.refl _ _) | (with_reducible assumption) | (with_reducible refine Below.setCell ?_ ?_ _) | (with_reducible refine Below.alloc ?_ ?_ _) | (with_reducible refine Below.drew ?_) | (with_reducible refine below_drewN ?_ _) | (with_reducible refine Below.trans ?_ (Below.mono (by assumption) ?_)) | (simp <;> omega) | omega))
  by_cases hdg : 1048576 < d ∨ n > 1125899906842624 ∨ n < -1125899906842624
  · have fin : Calls Tryz.prog 39 #[.int .i64 n, .int .i64 d] w (RetNumb w) := by
      rcases hdg with h | h
      · go_enter Tryz.func39, Tryz.ntmps39
        go_wp2_with (go_at_call 43; refine (doubt_any _).mono ?_; rintro e w4 ⟨rfl, hb4⟩; obtain ⟨hc4, hf4⟩ := bcell hb4; have hz4 : w.heap.size < w4.heap.size := by (have := hb4.size; simp at this; omega))
        refine bodyPost_ret (v := .agg #[.int .i64 6, .int .i64 0, .int .i64 0, .string ⟨#[]⟩, .slice none 0 0]) ?_ rfl ⟨6, 0, 0, .inl ⟨rfl, rfl, rfl⟩, rfl, ?_⟩
        · simp [results, Tryz.results39, go_sem, *]
        · (repeat' (first | (with_reducible exact Below.refl _ _) | (with_reducible assumption) | (with_reducible refine Below.setCell ?_ ?_ _) | (with_reducible refine Below.alloc ?_ ?_ _) | (with_reducible refine Below.drew ?_) | (with_reducible refine below_drewN ?_ _) | (with_reducible refine Below.trans ?_ (Below.mono (by assumption) ?_)) | (simp <;> omega) | omega))
      · by_cases hd2 : 1048576 < d
        · go_enter Tryz.func39, Tryz.ntmps39
          go_wp2_with (go_at_call 43; refine (doubt_any _).mono ?_; rintro e w4 ⟨rfl, hb4⟩; obtain ⟨hc4, hf4⟩ := bcell hb4; have hz4 : w.heap.size < w4.heap.size := by (have := hb4.size; simp at this; omega))
          refine bodyPost_ret (v := .agg #[.int .i64 6, .int .i64 0, .int .i64 0, .string ⟨#[]⟩, .slice none 0 0]) ?_ rfl ⟨6, 0, 0, .inl ⟨rfl, rfl, rfl⟩, rfl, ?_⟩
          · simp [results, Tryz.results39, go_sem, *]
          · (repeat' (first | (with_reducible exact Below.refl _ _) | (with_reducible assumption) | (with_reducible refine Below.setCell ?_ ?_ _) | (with_reducible refine Below.alloc ?_ ?_ _) | (with_reducible refine Below.drew ?_) | (with_reducible refine below_drewN ?_ _) | (with_reducible refine Below.trans ?_ (Below.mono (by assumption) ?_)) | (simp <;> omega) | omega))
        · rcases h with h | h
          all_goals
            go_enter Tryz.func39, Tryz.ntmps39
            go_wp2_with (go_at_call 43; refine (doubt_any _).mono ?_; rintro e w4 ⟨rfl, hb4⟩; obtain ⟨hc4, hf4⟩ := bcell hb4; have hz4 : w.heap.size < w4.heap.size := by (have := hb4.size; simp at this; omega))
            refine bodyPost_ret (v := .agg #[.int .i64 6, .int .i64 0, .int .i64 0, .string ⟨#[]⟩, .slice none 0 0]) ?_ rfl ⟨6, 0, 0, .inl ⟨rfl, rfl, rfl⟩, rfl, ?_⟩
            · simp [results, Tryz.results39, go_sem, *]
            · (repeat' (first | (with_reducible exact Below.refl _ _) | (with_reducible assumption) | (with_reducible refine Below.setCell ?_ ?_ _) | (with_reducible refine Below.alloc ?_ ?_ _) | (with_reducible refine Below.drew ?_) | (with_reducible refine below_drewN ?_ _) | (with_reducible refine Below.trans ?_ (Below.mono (by assumption) ?_)) | (simp <;> omega) | omega))
    exact fin
  have g1 : 0 < d := by omega
  have g2 : d ≤ 1048576 := by omega
  have g3 : n ≤ 1125899906842624 := by omega
  have g4 : -1125899906842624 ≤ n := by omega
  clear hdg hdz hn1 hn2 hd
  have q0 : decide (d < 0) = false := decide_eq_false (by omega)
  have q1 : (d == 0) = false := beq_eq_false_iff_ne.2 (by omega)
  have q2 : decide (1048576 < d) = false := decide_eq_false (by omega)
  have q3 : decide (1125899906842624 < n) = false := decide_eq_false (by omega)
  have q4 : decide (n < -1125899906842624) = false := decide_eq_false (by omega)
  by_cases hr : (n * 16).tmod d = 0
  · have q5 : ((n * 16).tmod d != 0) = false := by rw [hr]; rfl
    have hbb : -18014398509481984 ≤ (n * 16).tdiv d ∧ (n * 16).tdiv d ≤ 18014398509481984 := by
      have h := Int.natAbs_tdiv_le_natAbs (n * 16) d
      omega
    obtain ⟨hb1, hb2⟩ := hbb
    clear hr
    go_enter Tryz.func39, Tryz.ntmps39
    go_wp2_with fail
    go_loop [0, 1] (fun a b => ∃ N D : Int, a = .int .i64 N ∧ b = .int .i64 D ∧ -18014398509481984 ≤ N ∧ N ≤ 18014398509481984 ∧ (D = 1 ∨ D = 2 ∨ D = 4 ∨ D = 8 ∨ D = 16)) (fun _ b => (intOf b).toNat)
    case atStart => exact ⟨_, _, rfl, rfl, hb1, hb2, by omega⟩
    case round =>
      clear q0 q1 q2 q3 q4 q5 hb1 hb2
      obtain ⟨N, D, rfl, rfl, hN1, hN2, hD⟩ := hrel
      by_cases hs : 1 < D ∧ N.tmod 2 = 0
      · have hq : D / 2 = 1 ∨ D / 2 = 2 ∨ D / 2 = 4 ∨ D / 2 = 8 := by omega
        have hqq : -18014398509481984 ≤ N.tdiv 2 ∧ N.tdiv 2 ≤ 18014398509481984 := by
          have h := Int.natAbs_tdiv_le_natAbs N 2
          omega
        have p1 : decide (1 < D) = true := decide_eq_true hs.1
        have p2 : (N.tmod 2 == 0) = true := by rw [hs.2]; rfl
        have p3 : 0 ≤ D := by omega
        clear hD hs
        go_wp2_with fail
        go_round
        case rel => exact ⟨_, _, rfl, rfl, hqq.1, hqq.2, by omega⟩
        case measure => simp [intOf]; omega
      · have HD := hide hD
        clear hD
        by_cases h1 : 1 < D
        · have p1 : decide (1 < D) = true := decide_eq_true h1
          have p2 : (N.tmod 2 == 0) = false := by
            rw [beq_eq_false_iff_ne]
            exact fun h => hs ⟨h1, h⟩
          clear hs
          go_wp2_with (go_at_call 43; refine (doubt_any _).mono ?_; rintro e w4 ⟨rfl, hb4⟩; obtain ⟨hc4, hf4⟩ := bcell hb4; have hz4 : w.heap.size < w4.heap.size := by (have := hb4.size; simp at this; omega))
          all_goals first
            | (refine bodyPost_ret (v := .agg #[.int .i64 6, .int .i64 0, .int .i64 0, .string ⟨#[]⟩, .slice none 0 0]) ?_ rfl ⟨6, 0, 0, .inl ⟨rfl, rfl, rfl⟩, rfl, ?_⟩
               · simp [results, Tryz.results39, go_sem, *]; done
               · (repeat' (first | (with_reducible exact Below.refl _ _) | (with_reducible assumption) | (with_reducible refine Below.setCell ?_ ?_ _) | (with_reducible refine Below.alloc ?_ ?_ _) | (with_reducible refine Below.drew ?_) | (with_reducible refine below_drewN ?_ _) | (with_reducible refine Below.trans ?_ (Below.mono (by assumption) ?_)) | (simp <;> omega) | omega)))
            | (refine bodyPost_ret (v := .agg #[.int .i64 1, .int .i64 N, .int .i64 D, .string ⟨#[]⟩, .slice none 0 0]) ?_ rfl ⟨1, N, D, .inr ⟨rfl, by omega, by omega, HD.out⟩, rfl, ?_⟩
               · simp [results, Tryz.results39, go_sem]; done
               · (repeat' (first | (with_reducible exact Below.refl _ _) | (with_reducible assumption) | (with_reducible refine Below.setCell ?_ ?_ _) | (with_reducible refine Below.alloc ?_ ?_ _) | (with_reducible refine Below.drew ?_) | (with_reducible refine below_drewN ?_ _) | (with_reducible refine Below.trans ?_ (Below.mono (by assumption) ?_)) | (simp <;> omega) | omega)))
        · have p1 : decide (1 < D) = false := decide_eq_false h1
          clear hs h1
          go_wp2_with (go_at_call 43; refine (doubt_any _).mono ?_; rintro e w4 ⟨rfl, hb4⟩; obtain ⟨hc4, hf4⟩ := bcell hb4; have hz4 : w.heap.size < w4.heap.size := by (have := hb4.size; simp at this; omega))
          all_goals first
            | (refine bodyPost_ret (v := .agg #[.int .i64 6, .int .i64 0, .int .i64 0, .string ⟨#[]⟩, .slice none 0 0]) ?_ rfl ⟨6, 0, 0, .inl ⟨rfl, rfl, rfl⟩, rfl, ?_⟩
               · simp [results, Tryz.results39, go_sem, *]; done
               · (repeat' (first | (with_reducible exact Below.refl _ _) | (with_reducible assumption) | (with_reducible refine Below.setCell ?_ ?_ _) | (with_reducible refine Below.alloc ?_ ?_ _) | (with_reducible refine Below.drew ?_) | (with_reducible refine below_drewN ?_ _) | (with_reducible refine Below.trans ?_ (Below.mono (by assumption) ?_)) | (simp <;> omega) | omega)))
            | (refine bodyPost_ret (v := .agg #[.int .i64 1, .int .i64 N, .int .i64 D, .string ⟨#[]⟩, .slice none 0 0]) ?_ rfl ⟨1, N, D, .inr ⟨rfl, by omega, by omega, HD.out⟩, rfl, ?_⟩
               · simp [results, Tryz.results39, go_sem]; done
               · (repeat' (first | (with_reducible exact Below.refl _ _) | (with_reducible assumption) | (with_reducible refine Below.setCell ?_ ?_ _) | (with_reducible refine Below.alloc ?_ ?_ _) | (with_reducible refine Below.drew ?_) | (with_reducible refine below_drewN ?_ _) | (with_reducible refine Below.trans ?_ (Below.mono (by assumption) ?_)) | (simp <;> omega) | omega)))
  · have q5 : ((n * 16).tmod d != 0) = true := by simpa using hr
    go_enter Tryz.func39, Tryz.ntmps39
    go_wp2_with (go_at_call 43; refine (doubt_any _).mono ?_; rintro e w4 ⟨rfl, hb4⟩; obtain ⟨hc4, hf4⟩ := bcell hb4; have hz4 : w.heap.size < w4.heap.size := by (have := hb4.size; simp at this; omega))
    refine bodyPost_ret (v := .agg #[.int .i64 6, .int .i64 0, .int .i64 0, .string ⟨#[]⟩, .slice none 0 0]) ?_ rfl ⟨6, 0, 0, .inl ⟨rfl, rfl, rfl⟩, rfl, ?_⟩
    · simp [results, Tryz.results39, go_sem, *]
    · (repeat' (first | (with_reducible exact Below.refl _ _) | (with_reducible assumption) | (with_reducible refine Below.setCell ?_ ?_ _) | (with_reducible refine Below.alloc ?_ ?_ _) | (with_reducible refine Below.drew ?_) | (with_reducible refine below_drewN ?_ _) | (with_reducible refine Below.trans ?_ (Below.mono (by assumption) ?_)) | (simp <;> omega) | omega))
end Go.Proofs.YtemeamckdfnlfaaGreatDoor
