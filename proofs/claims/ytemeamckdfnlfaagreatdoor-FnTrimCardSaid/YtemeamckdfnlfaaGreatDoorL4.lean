/- Contracts of the laws' own helper laws.same, where it holds. -/
import Derived.Test.YtemeamckdfnlfaaGreatDoorL3
namespace Go.Proofs.YtemeamckdfnlfaaGreatDoor
open Go Go.RowKit Ieee Fl
attribute [local go_sem] run_store_float
set_option maxRecDepth 100000 in
set_option maxHeartbeats 1000000 in
theorem same_any (x : Nat) (v : V) (hv : OkV v) (hx : FloatKind.f64.format.order x (xOf v) = some .eq) (w : World) :
    Calls Tryz.prog 20 #[.agg #[.int .i64 v.k, .float .f64 x, .string v.t, .slice none 0 0], .agg #[.int .i64 v.k, .int .i64 v.n, .int .i64 v.d, .string v.t, .slice none 0 0]] w fun e w' => e = .returned (.bool true) ∧ Below w.heap.size w w' := by
  obtain ⟨y, hy⟩ : ∃ y, xOf v = y := ⟨_, rfl⟩
  have HO : Hid (∀ w, Calls Tryz.prog 33 #[.agg #[.int .i64 v.k, .int .i64 v.n, .int .i64 v.d, .string v.t, .slice none 0 0]] w fun e w' => e = .returned (.agg #[.int .i64 v.k, .float .f64 y, .string v.t, .slice none 0 0]) ∧ Below w.heap.size w w') := by
    subst hy
    exact hide (of_any v hv)
  rw [hy] at hx
  clear hy hv
  obtain ⟨k, n, d, t⟩ := v
  go_enter Tryz.func20, Tryz.ntmps20
  go_wp2_with (go_at_call 33; refine (HO.out _).mono ?_; rintro e w1 ⟨rfl, hb1⟩; obtain ⟨hc1, hf1⟩ := bcell hb1; go_must (have hs1 : w.heap.size + 1 < w1.heap.size := by (have := hb1.size; simp at this; omega)); have hs2 : w.heap.size < w1.heap.size := by omega)
  refine wp_loop_once ?_
  go_wp2_with fail
  go_ret
  exact ⟨rfl, by (repeat' (first | (with_reducible exact Below.refl _ _) | (with_reducible assumption) | (with_reducible refine Below.setCell ?_ ?_ _) | (with_reducible refine Below.alloc ?_ ?_ _) | (with_reducible refine Below.drew ?_) | (with_reducible refine below_drewN ?_ _) | (with_reducible refine Below.trans ?_ (Below.mono (by assumption) ?_)) | (simp <;> omega) | omega))⟩
end Go.Proofs.YtemeamckdfnlfaaGreatDoor
