/- Contract of laws.argWhole. -/
import Derived.Test.YtoglgdapaonioaaGreatDoorS1
import Derived.Test.YtoglgdapaonioaaGreatDoorL3
namespace Go.Proofs.YtoglgdapaonioaaGreatDoor
open Go Go.RowKit
/-- The value of a whole number. -/
def wholeV (n : Int) : V := if 99999999999 < n ∨ n < -99999999999 then ⟨6, 0, 0, ⟨#[]⟩⟩ else ⟨1, n, 1, ⟨#[]⟩⟩
theorem argWhole_any (n : Int) (w : World) : Calls Tryz.prog 9 #[.int .i64 n] w fun e w' => e = .returned (.agg #[.int .i64 (wholeV n).k, .int .i64 (wholeV n).n, .int .i64 (wholeV n).d, .string (wholeV n).t, .slice none 0 0]) ∧ Below w.heap.size w w' := by
  by_cases h : 99999999999 < n ∨ n < -99999999999
  · rw [wholeV, if_pos h]
    go_enter Tryz.func9, Tryz.ntmps9
    go_wp2_with (go_at_call 20; refine (int_great n h _).mono ?_; rintro e w1 ⟨rfl, hb⟩; obtain ⟨hc, hf⟩ := bcell hb; have hz : w.heap.size < w1.heap.size := by (have := hb.size; simp at this; omega))
    refine bodyPost_ret (v := .agg #[.int .i64 6, .int .i64 0, .int .i64 0, .string ⟨#[]⟩, .slice none 0 0]) ?_ rfl ⟨rfl, ?_⟩
    · simp [results, Tryz.results9, go_sem, hc]
    · (repeat' (first | (with_reducible exact Below.refl _ _) | (with_reducible assumption) | (with_reducible refine Below.setCell ?_ ?_ _) | (with_reducible refine Below.alloc ?_ ?_ _) | (with_reducible refine Below.drew ?_) | (with_reducible refine below_drewN ?_ _) | (with_reducible refine Below.trans ?_ (Below.mono (by assumption) ?_)) | (simp <;> omega) | omega))
  · rw [wholeV, if_neg h]
    go_enter Tryz.func9, Tryz.ntmps9
    go_wp2_with (go_at_call 20; refine (int_fits n (by omega) (by omega) _).mono ?_; rintro e w1 ⟨rfl, hb⟩; obtain ⟨hc, hf⟩ := bcell hb; have hz : w.heap.size < w1.heap.size := by (have := hb.size; simp at this; omega))
    refine bodyPost_ret (v := .agg #[.int .i64 1, .int .i64 n, .int .i64 1, .string ⟨#[]⟩, .slice none 0 0]) ?_ rfl ⟨rfl, ?_⟩
    · simp [results, Tryz.results9, go_sem, hc]
    · (repeat' (first | (with_reducible exact Below.refl _ _) | (with_reducible assumption) | (with_reducible refine Below.setCell ?_ ?_ _) | (with_reducible refine Below.alloc ?_ ?_ _) | (with_reducible refine Below.drew ?_) | (with_reducible refine below_drewN ?_ _) | (with_reducible refine Below.trans ?_ (Below.mono (by assumption) ?_)) | (simp <;> omega) | omega))
end Go.Proofs.YtoglgdapaonioaaGreatDoor
