/- Contracts of the package's doors: Len, Front, T, and the way back to a value. -/
import Derived.Test.YtjcnnjknhemimaaGreatDoorD2
namespace Go.Proofs.YtjcnnjknhemimaaGreatDoor
open Go Go.RowKit
attribute [local go_sem] run_store_float
theorem doorFuncs_any (w : World) : Calls Tryz.prog 25 #[] w fun e w' => (∃ a, e = .returned (.pointer (some a))) ∧ Below w.heap.size w w' := by
  go_enter Tryz.func25, Tryz.ntmps25
  go_wp2_with fail
  go_ret
  exact ⟨⟨_, rfl⟩, by (repeat' (first | (with_reducible exact Below.refl _ _) | (with_reducible assumption) | (with_reducible refine Below.setCell ?_ ?_ _) | (with_reducible refine Below.alloc ?_ ?_ _) | (with_reducible refine Below.drew ?_) | (with_reducible refine below_drewN ?_ _) | (with_reducible refine Below.trans ?_ (Below.mono (by assumption) ?_)) | (simp <;> omega) | omega))⟩
/-- The value that a formula argument stands for. -/
def valOf (f : F) : I := if f.ty = 1 then (if f.b then ⟨3, f.x, ⟨#[]⟩⟩ else ⟨1, f.x, ⟨#[]⟩⟩) else if f.ty = 2 then ⟨2, 0, f.s⟩ else if f.ty = 5 then ⟨4, 0, f.s⟩ else ⟨0, 0, ⟨#[]⟩⟩
def I.agg' (v : I) : Value := .agg #[.int .i64 v.k, .float .f64 v.x, .string v.t, .slice none 0 0]
set_option maxRecDepth 100000 in
theorem doorArg_any (f : F) (hf : f.ty = 1 ∨ f.ty = 2 ∨ f.ty = 5 ∨ f.ty = 6) (w : World) : Calls Tryz.prog 24 #[f.agg] w fun e w' => e = .returned (valOf f).agg' ∧ Below w.heap.size w w' := by
  obtain ⟨x, s, b, er, ty⟩ := f
  unfold F.agg
  simp only at hf ⊢
  rcases hf with rfl | rfl | rfl | rfl
  all_goals cases b
  all_goals
    go_enter Tryz.func24, Tryz.ntmps24
    go_wp2_with fail
    refine bodyPost_ret (v := (valOf _).agg') ?_ rfl ⟨rfl, ?_⟩
    · simp [results, Tryz.results24, go_sem, I.agg', valOf]
    · (repeat' (first | (with_reducible exact Below.refl _ _) | (with_reducible assumption) | (with_reducible refine Below.setCell ?_ ?_ _) | (with_reducible refine Below.alloc ?_ ?_ _) | (with_reducible refine Below.drew ?_) | (with_reducible refine below_drewN ?_ _) | (with_reducible refine Below.trans ?_ (Below.mono (by assumption) ?_)) | (simp <;> omega) | omega))
@[go_sem] theorem as69 (v : Value) (w : World) : (Instr.typeAssert (.iface 55 v) 20 55 false).run Tryz.prog w = .ok v w := by kernel_rfl
theorem len_any (L : Nat) (n : Int) (w : World) (h : w.cell? ⟨L, 4, none⟩ = some (.int .i64 n)) : Calls Tryz.prog 42 #[.pointer (some ⟨L, 0, none⟩)] w fun e w' => e = .returned (.int .i64 n) ∧ w = w' := by
  go_enter Tryz.func42, Tryz.ntmps42
  go_wp2_with fail
  go_ret
  exact ⟨rfl, rfl⟩
theorem front_any (L E : Nat) (n : Int) (hn : n ≠ 0) (w : World) (h : w.cell? ⟨L, 4, none⟩ = some (.int .i64 n)) (h0 : w.cell? ⟨L, 0, none⟩ = some (.pointer (some ⟨E, 0, none⟩))) : Calls Tryz.prog 45 #[.pointer (some ⟨L, 0, none⟩)] w fun e w' => e = .returned (.pointer (some ⟨E, 0, none⟩)) ∧ w = w' := by
  go_enter Tryz.func45, Tryz.ntmps45
  go_wp2_with fail
  go_ret
  exact ⟨rfl, rfl⟩
end Go.Proofs.YtjcnnjknhemimaaGreatDoor
