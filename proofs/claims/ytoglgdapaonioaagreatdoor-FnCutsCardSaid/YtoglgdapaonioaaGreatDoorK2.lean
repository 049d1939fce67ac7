/- Contracts of the machine's LEFT and RIGHT: ToNumber, list.List's Back, math.Min, leftRight. -/
import Derived.Test.YtoglgdapaonioaaGreatDoorK1
import Derived.Test.YtoglgdapaonioaaGreatDoorD3
import Derived.Test.YtoglgdapaonioaaGreatDoorD4
import Derived.Laws.Externs
namespace Go.Proofs.YtoglgdapaonioaaGreatDoor
open Go Go.RowKit Ieee Fl
attribute [local go_sem] run_store_float
theorem zero_is : FloatKind.f64.nearest 0 = 0 := by decide
theorem is_numOf {x : Nat} {i : Int} (h : Is x i 0) : Is (numOf x) i 0 := by
  unfold numOf
  split
  · rename_i h0
    have h1 := order_is h (is_int 0 (by decide))
    rw [zero_is] at h1
    have h2 : compare i 0 = .eq := by
      have h3 : (some (compare i 0) : Option Ordering) = some .eq := h1.symm.trans h0
      simpa using h3
    have hi : i = 0 := Int.compare_eq_eq.1 h2
    subst hi
    have := is_int 0 (by decide)
    rw [zero_is] at this
    exact this
  · exact h
theorem is_self {x : Nat} {i : Int} (h : Is x i 0) : FloatKind.f64.format.order x x = some .eq := by
  have := order_is h h
  rw [show compare i i = .eq from by simp] at this
  exact this
theorem toNumber_any (x : Nat) (hx : FloatKind.f64.format.order x x = some .eq) (w : World) : Calls Tryz.prog 41 #[F.agg ⟨x, ⟨#[]⟩, false, ⟨#[]⟩, 1⟩] w fun e w' => e = .returned (F.agg ⟨numOf x, ⟨#[]⟩, false, ⟨#[]⟩, 1⟩) ∧ Below w.heap.size w w' := by
  unfold F.agg
  go_enter Tryz.func41, Tryz.ntmps41
  go_wp2_with (go_at_call 47; refine (newNumber_any x hx _).mono ?_; rintro e w1 ⟨rfl, hb⟩; dsimp only [F.agg]; obtain ⟨hc, hf⟩ := bcell hb; have hz : w.heap.size + 1 < w1.heap.size := by (have := hb.size; simp at this; omega))
  refine bodyPost_ret (v := F.agg ⟨numOf x, ⟨#[]⟩, false, ⟨#[]⟩, 1⟩) ?_ rfl ⟨rfl, ?_⟩
  · simp [results, Tryz.results41, go_sem, F.agg, hc]
  · (repeat' (first | (with_reducible exact Below.refl _ _) | (with_reducible assumption) | (with_reducible refine Below.setCell ?_ ?_ _) | (with_reducible refine Below.alloc ?_ ?_ _) | (with_reducible refine Below.drew ?_) | (with_reducible refine below_drewN ?_ _) | (with_reducible refine Below.trans ?_ (Below.mono (by assumption) ?_)) | (simp <;> omega) | omega))
theorem back_any (L E : Nat) (n : Int) (hn : n ≠ 0) (w : World) (h : w.cell? ⟨L, 4, none⟩ = some (.int .i64 n)) (h1 : w.cell? ⟨L, 1, none⟩ = some (.pointer (some ⟨E, 0, none⟩))) : Calls Tryz.prog 40 #[.pointer (some ⟨L, 0, none⟩)] w fun e w' => e = .returned (.pointer (some ⟨E, 0, none⟩)) ∧ w = w' := by
  go_enter Tryz.func40, Tryz.ntmps40
  go_wp2_with fail
  go_ret
  exact ⟨rfl, rfl⟩
set_option maxRecDepth 100000 in
theorem min_any {x y : Nat} {i n : Int} (hx : Is x i 0) (hy : Is y n 0) (h : i ≤ n) (w : World) : Calls Tryz.prog 42 #[.float .f64 x, .float .f64 y] w fun e w' => ∃ r, Is r i 0 ∧ e = .returned (.float .f64 r) ∧ w = w' := by
  obtain ⟨r, hr, hp⟩ := pick_min hx hy h Tryz.prog w
  have harch : (callFunc 57 #[.float .f64 x, .float .f64 y]).run Tryz.prog w = .ok (.value (.float .f64 r)) w := by
    rw [run_callFunc_extern (e := Extern.MathDim.pick "math.archMin" true .lt) Tryz.func57 (by kernel_rfl) (by kernel_rfl) (by kernel_rfl) (by rfl), hp]
    rfl
  go_enter Tryz.func42, Tryz.ntmps42
  go_wp2_with fail
  go_ret
  exact ⟨r, hr, rfl, rfl⟩
end Go.Proofs.YtoglgdapaonioaaGreatDoor
