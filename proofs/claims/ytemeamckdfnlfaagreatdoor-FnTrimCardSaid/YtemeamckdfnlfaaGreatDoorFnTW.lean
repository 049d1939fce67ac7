/- The walk of laws.FnT: true, whatever the text. -/
import Derived.Test.YtemeamckdfnlfaaGreatDoorAgr
namespace Go.Proofs.YtemeamckdfnlfaaGreatDoor
open Go Go.RowKit Ieee Fl
theorem rd_one (v : V) (w : World) : Rd (w.alloc (.cells #[.int .i64 v.k, .int .i64 v.n, .int .i64 v.d, .string v.t, .slice none 0 0] 27)) (w.alloc (.cells #[.int .i64 v.k, .int .i64 v.n, .int .i64 v.d, .string v.t, .slice none 0 0] 27)).heap.size 5 (some ⟨w.heap.size, 0, none⟩) 1 (cellsV [v]) := by
  refine ⟨rfl, fun _ => ⟨_, rfl, by simp, fun j u hu => ?_⟩⟩
  refine (World.cell?_alloc_mark _ _ 27 (0, 0) j).trans ?_
  have : (#[.int .i64 v.k, .int .i64 v.n, .int .i64 v.d, .string v.t, .slice none 0 0] : Array Value).toList = cellsV [v] := rfl
  rw [← Array.getElem?_toList, this, hu]
set_option maxRecDepth 100000 in
theorem fnT_any (t : ByteArray) (w : World) : Calls Tryz.prog 3 #[.string t] w fun e w' => e = .returned (.bool true) ∧ Below w.heap.size w w' := by
  by_cases h1 : t.size ≤ 1000
  · have hd : decide (t.size ≤ 1000) = true := by simpa using h1
    go_enter Tryz.func3, Tryz.ntmps3
    go_wp2_with fail
    refine (short_one t w.heap.size 1 _ (by simp)).mono ?_
    rintro e w1 ⟨rfl, rfl⟩
    rw [hd]
    go_wp2_with fail
    refine (str_any t _).mono ?_
    rintro e w1 ⟨rfl, hb1⟩
    have hs1 := hb1.size
    go_wp2_with fail
    refine (agrees_T ⟨2, 0, 0, t⟩ ⟨by simp, by simp⟩ (.inl rfl) h1 _ _ _ (rd_one ⟨2, 0, 0, t⟩ w1)).mono ?_
    rintro e w2 ⟨rfl, hb2⟩
    have hs2 := hb2.size
    have hb01 : Below w.heap.size w w1 := by (repeat' (first | (with_reducible exact Below.refl _ _) | (with_reducible assumption) | (with_reducible refine Below.setCell ?_ ?_ _) | (with_reducible refine Below.alloc ?_ ?_ _) | (with_reducible refine Below.drew ?_) | (with_reducible refine below_drewN ?_ _) | (with_reducible refine Below.trans ?_ (Below.mono (by assumption) ?_)) | (simp <;> omega) | omega))
    have hb02 : Below w.heap.size w w2 := (Below.alloc hb01 hb01.size _).trans (hb2.mono (by have := hb01.size; simp; omega))
    clear hb1 hb2 hb01
    go_wp2_with fail
    go_ret
    exact ⟨rfl, hb02⟩
  · have hd : decide (t.size ≤ 1000) = false := by simpa using h1
    go_enter Tryz.func3, Tryz.ntmps3
    go_wp2_with (go_at_call 8; refine (short_one t w.heap.size 1 _ (by simp)).mono ?_; rintro e w1 ⟨rfl, rfl⟩; rw [hd])
    all_goals
      go_ret
      exact ⟨rfl, by (repeat' (first | (with_reducible exact Below.refl _ _) | (with_reducible assumption) | (with_reducible refine Below.setCell ?_ ?_ _) | (with_reducible refine Below.alloc ?_ ?_ _) | (with_reducible refine Below.drew ?_) | (with_reducible refine below_drewN ?_ _) | (with_reducible refine Below.trans ?_ (Below.mono (by assumption) ?_)) | (simp <;> omega) | omega))⟩
end Go.Proofs.YtemeamckdfnlfaaGreatDoor
