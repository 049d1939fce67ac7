/- The walk of laws.FnTextOf: true, whatever the kind, the number and the text. -/
import Derived.Test.YtemeamckdfnlfaaGreatDoorFnTW
import Derived.Test.YtemeamckdfnlfaaGreatDoorMk
namespace Go.Proofs.YtemeamckdfnlfaaGreatDoor
open Go Go.RowKit Ieee Fl
set_option maxRecDepth 100000 in
theorem fnTextOf_any (a n : Int) (t : ByteArray) (ha0 : 0 ≤ a) (ha1 : a ≤ 255) (hn1 : -9223372036854775808 ≤ n) (hn2 : n ≤ 9223372036854775807) (w : World) :
    Calls Tryz.prog 4 #[.int .u8 a, .int .i64 n, .string t] w fun e w' => e = .returned (.bool true) ∧ Below w.heap.size w w' := by
  by_cases h1 : t.size ≤ 1000
  · have hd : decide (t.size ≤ 1000) = true := by simpa using h1
    have HM := hide (argMade_any a n t ha0 ha1 hn1 hn2 h1)
    go_enter Tryz.func4, Tryz.ntmps4
    go_wp2_with fail
    refine (short_one t w.heap.size 1 _ (by simp)).mono ?_
    rintro e w1 ⟨rfl, rfl⟩
    rw [hd]
    go_wp2_with fail
    refine (HM.out _).mono ?_
    rintro e w1 ⟨k, m, d, t', hv, rfl, hb1⟩
    have hs1 := hb1.size
    have HV := hide hv
    clear hv HM
    go_wp2_with fail
    refine (agrees_T ⟨k, m, d, t'⟩ HV.out.1 HV.out.2.1 HV.out.2.2 _ _ _ (rd_one ⟨k, m, d, t'⟩ w1)).mono ?_
    rintro e w2 ⟨rfl, hb2⟩
    have hs2 := hb2.size
    have hb01 : Below w.heap.size w w1 := by (repeat' (first | (with_reducible exact Below.refl _ _) | (with_reducible assumption) | (with_reducible refine Below.setCell ?_ ?_ _) | (with_reducible refine Below.alloc ?_ ?_ _) | (with_reducible refine Below.drew ?_) | (with_reducible refine below_drewN ?_ _) | (with_reducible refine Below.trans ?_ (Below.mono (by assumption) ?_)) | (simp <;> omega) | omega))
    have hb02 : Below w.heap.size w w2 := (Below.alloc hb01 hb01.size _).trans (hb2.mono (by have := hb01.size; simp; omega))
    clear hb1 hb2 hb01
    go_wp2_with fail
    go_ret
    exact ⟨rfl, hb02⟩
  · have hd : decide (t.size ≤ 1000) = false := by simpa using h1
    go_enter Tryz.func4, Tryz.ntmps4
    go_wp2_with (go_at_call 8; refine (short_one t w.heap.size 1 _ (by simp)).mono ?_; rintro e w1 ⟨rfl, rfl⟩; rw [hd])
    all_goals
      go_ret
      exact ⟨rfl, by (repeat' (first | (with_reducible exact Below.refl _ _) | (with_reducible assumption) | (with_reducible refine Below.setCell ?_ ?_ _) | (with_reducible refine Below.alloc ?_ ?_ _) | (with_reducible refine Below.drew ?_) | (with_reducible refine below_drewN ?_ _) | (with_reducible refine Below.trans ?_ (Below.mono (by assumption) ?_)) | (simp <;> omega) | omega))⟩
end Go.Proofs.YtemeamckdfnlfaaGreatDoor
