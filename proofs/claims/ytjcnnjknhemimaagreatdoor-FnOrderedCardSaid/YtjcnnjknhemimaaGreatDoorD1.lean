/- Contracts of the package's doors: the formula argument that stands for a value, and container/list's New. -/
import Derived.Test.YtjcnnjknhemimaaGreatDoorL5
namespace Go.Proofs.YtjcnnjknhemimaaGreatDoor
open Go Go.RowKit
attribute [local go_sem] run_store_float
/-- A formula argument without lists, matrices and references. -/
structure F where
  x : Nat
  s : ByteArray
  b : Bool
  e : ByteArray
  ty : Int
def F.agg (f : F) : Value := .agg #[.string ⟨#[]⟩, .float .f64 f.x, .string f.s, .slice none 0 0, .slice none 0 0, .bool f.b, .string f.e, .int .u8 f.ty, .pointer none, .pointer none]

theorem isNaN_any (x : Nat) (hx : FloatKind.f64.format.order x x = some .eq) (w : World) : Calls Tryz.prog 65 #[.float .f64 x] w fun e w' => e = .returned (.bool false) ∧ w = w' := by
  go_enter Tryz.func65, Tryz.ntmps65
  go_wp2_with fail
  go_ret
  exact ⟨ret_val rfl, rfl⟩
/-- The number that an argument keeps. -/
def numOf (x : Nat) : Nat := if FloatKind.f64.format.order x 0 = some .eq then 0 else x
theorem newNumber_any (x : Nat) (hx : FloatKind.f64.format.order x x = some .eq) (w : World) : Calls Tryz.prog 47 #[.float .f64 x] w fun e w' => e = .returned (F.agg ⟨numOf x, ⟨#[]⟩, false, ⟨#[]⟩, 1⟩) ∧ Below w.heap.size w w' := by
  by_cases h0 : FloatKind.f64.format.order x 0 = some .eq
  · go_enter Tryz.func47, Tryz.ntmps47
    go_wp2_with (go_at_call 65; refine (isNaN_any x hx _).mono ?_; rintro e w1 ⟨rfl, rfl⟩)
    refine bodyPost_ret (v := F.agg ⟨numOf x, ⟨#[]⟩, false, ⟨#[]⟩, 1⟩) ?_ rfl ⟨rfl, ?_⟩
    · simp [results, Tryz.results47, go_sem, F.agg, numOf, h0]
    · (repeat' (first | (with_reducible exact Below.refl _ _) | (with_reducible assumption) | (with_reducible refine Below.setCell ?_ ?_ _) | (with_reducible refine Below.alloc ?_ ?_ _) | (with_reducible refine Below.drew ?_) | (with_reducible refine below_drewN ?_ _) | (with_reducible refine Below.trans ?_ (Below.mono (by assumption) ?_)) | (simp <;> omega) | omega))
  · have h1 : (FloatKind.f64.format.order x 0 == some .eq) = false := by simpa using h0
    go_enter Tryz.func47, Tryz.ntmps47
    go_wp2_with (go_at_call 65; refine (isNaN_any x hx _).mono ?_; rintro e w1 ⟨rfl, rfl⟩)
    refine bodyPost_ret (v := F.agg ⟨numOf x, ⟨#[]⟩, false, ⟨#[]⟩, 1⟩) ?_ rfl ⟨rfl, ?_⟩
    · simp [results, Tryz.results47, go_sem, F.agg, numOf, h0]
    · (repeat' (first | (with_reducible exact Below.refl _ _) | (with_reducible assumption) | (with_reducible refine Below.setCell ?_ ?_ _) | (with_reducible refine Below.alloc ?_ ?_ _) | (with_reducible refine Below.drew ?_) | (with_reducible refine below_drewN ?_ _) | (with_reducible refine Below.trans ?_ (Below.mono (by assumption) ?_)) | (simp <;> omega) | omega))
theorem newString_any (s : ByteArray) (w : World) : Calls Tryz.prog 56 #[.string s] w fun e w' => e = .returned (F.agg ⟨0, s, false, ⟨#[]⟩, 2⟩) ∧ Below w.heap.size w w' := by
  go_enter Tryz.func56, Tryz.ntmps56
  go_wp2_with fail
  refine bodyPost_ret (v := F.agg ⟨0, s, false, ⟨#[]⟩, 2⟩) ?_ rfl ⟨rfl, ?_⟩
  · simp [results, Tryz.results56, go_sem, F.agg]
  · (repeat' (first | (with_reducible exact Below.refl _ _) | (with_reducible assumption) | (with_reducible refine Below.setCell ?_ ?_ _) | (with_reducible refine Below.alloc ?_ ?_ _) | (with_reducible refine Below.drew ?_) | (with_reducible refine below_drewN ?_ _) | (with_reducible refine Below.trans ?_ (Below.mono (by assumption) ?_)) | (simp <;> omega) | omega))
/-- The number of a truth. -/
def oneOf (b : Bool) : Nat := if b then 4607182418800017408 else 0
theorem newBool_any (b : Bool) (w : World) : Calls Tryz.prog 57 #[.bool b] w fun e w' => e = .returned (F.agg ⟨oneOf b, ⟨#[]⟩, true, ⟨#[]⟩, 1⟩) ∧ Below w.heap.size w w' := by
  cases b
  all_goals
    go_enter Tryz.func57, Tryz.ntmps57
    go_wp2_with fail
    refine bodyPost_ret (v := F.agg ⟨oneOf _, ⟨#[]⟩, true, ⟨#[]⟩, 1⟩) ?_ rfl ⟨rfl, ?_⟩
    · simp [results, Tryz.results57, go_sem, F.agg, oneOf]
    · (repeat' (first | (with_reducible exact Below.refl _ _) | (with_reducible assumption) | (with_reducible refine Below.setCell ?_ ?_ _) | (with_reducible refine Below.alloc ?_ ?_ _) | (with_reducible refine Below.drew ?_) | (with_reducible refine below_drewN ?_ _) | (with_reducible refine Below.trans ?_ (Below.mono (by assumption) ?_)) | (simp <;> omega) | omega))
theorem newError_any (s t : ByteArray) (w : World) : Calls Tryz.prog 48 #[.string s, .string t] w fun e w' => e = .returned (F.agg ⟨0, s, false, t, 5⟩) ∧ Below w.heap.size w w' := by
  go_enter Tryz.func48, Tryz.ntmps48
  go_wp2_with fail
  refine bodyPost_ret (v := F.agg ⟨0, s, false, t, 5⟩) ?_ rfl ⟨rfl, ?_⟩
  · simp [results, Tryz.results48, go_sem, F.agg]
  · (repeat' (first | (with_reducible exact Below.refl _ _) | (with_reducible assumption) | (with_reducible refine Below.setCell ?_ ?_ _) | (with_reducible refine Below.alloc ?_ ?_ _) | (with_reducible refine Below.drew ?_) | (with_reducible refine below_drewN ?_ _) | (with_reducible refine Below.trans ?_ (Below.mono (by assumption) ?_)) | (simp <;> omega) | omega))
theorem newEmpty_any (w : World) : Calls Tryz.prog 59 #[] w fun e w' => e = .returned (F.agg ⟨0, ⟨#[]⟩, false, ⟨#[]⟩, 6⟩) ∧ Below w.heap.size w w' := by
  go_enter Tryz.func59, Tryz.ntmps59
  go_wp2_with fail
  refine bodyPost_ret (v := F.agg ⟨0, ⟨#[]⟩, false, ⟨#[]⟩, 6⟩) ?_ rfl ⟨rfl, ?_⟩
  · simp [results, Tryz.results59, go_sem, F.agg]
  · (repeat' (first | (with_reducible exact Below.refl _ _) | (with_reducible assumption) | (with_reducible refine Below.setCell ?_ ?_ _) | (with_reducible refine Below.alloc ?_ ?_ _) | (with_reducible refine Below.drew ?_) | (with_reducible refine below_drewN ?_ _) | (with_reducible refine Below.trans ?_ (Below.mono (by assumption) ?_)) | (simp <;> omega) | omega))

/-- A value that the doors take in: no rows, not Unsure, no not-a-number. -/
def OkI (v : I) : Prop := v.k = 0 ∨ (v.k = 1 ∧ FloatKind.f64.format.order v.x v.x = some .eq) ∨ v.k = 2 ∨ v.k = 3 ∨ v.k = 4
/-- The argument that stands for a value. -/
def argOf (v : I) : F :=
  if v.k = 1 then ⟨numOf v.x, ⟨#[]⟩, false, ⟨#[]⟩, 1⟩ else if v.k = 2 then ⟨0, v.t, false, ⟨#[]⟩, 2⟩ else
  if v.k = 3 then ⟨oneOf (FloatKind.f64.format.order v.x 0 != some .eq), ⟨#[]⟩, true, ⟨#[]⟩, 1⟩ else if v.k = 4 then ⟨0, v.t, false, v.t, 5⟩ else ⟨0, ⟨#[]⟩, false, ⟨#[]⟩, 6⟩
set_option maxRecDepth 100000 in
set_option maxHeartbeats 2000000 in
theorem innerArg_any (v : I) (hv : OkI v) (w : World) : Calls Tryz.prog 37 #[.agg #[.int .i64 v.k, .float .f64 v.x, .string v.t, .slice none 0 0]] w fun e w' => e = .returned (argOf v).agg ∧ Below w.heap.size w w' := by
  obtain ⟨k, x, t⟩ := v
  unfold OkI at hv
  simp only at hv
  rcases hv with rfl | ⟨rfl, hx⟩ | rfl | rfl | rfl
  all_goals
    go_enter Tryz.func37, Tryz.ntmps37
    go_wp2_with (first
      | (go_at_call 47; refine (newNumber_any x hx _).mono ?_; rintro e w1 ⟨rfl, hb⟩; dsimp only [F.agg]; obtain ⟨hc, hf⟩ := bcell hb; have hz : w.heap.size + 1 < w1.heap.size := by (have := hb.size; simp at this; omega))
      | (go_at_call 56; refine (newString_any t _).mono ?_; rintro e w1 ⟨rfl, hb⟩; dsimp only [F.agg]; obtain ⟨hc, hf⟩ := bcell hb; have hz : w.heap.size + 1 < w1.heap.size := by (have := hb.size; simp at this; omega))
      | (go_at_call 57; refine (newBool_any _ _).mono ?_; rintro e w1 ⟨rfl, hb⟩; dsimp only [F.agg]; obtain ⟨hc, hf⟩ := bcell hb; have hz : w.heap.size + 1 < w1.heap.size := by (have := hb.size; simp at this; omega))
      | (go_at_call 48; refine (newError_any t t _).mono ?_; rintro e w1 ⟨rfl, hb⟩; dsimp only [F.agg]; obtain ⟨hc, hf⟩ := bcell hb; have hz : w.heap.size + 1 < w1.heap.size := by (have := hb.size; simp at this; omega))
      | (go_at_call 59; refine (newEmpty_any _).mono ?_; rintro e w1 ⟨rfl, hb⟩; dsimp only [F.agg]; obtain ⟨hc, hf⟩ := bcell hb; have hz : w.heap.size + 1 < w1.heap.size := by (have := hb.size; simp at this; omega)))
  all_goals
    refine bodyPost_ret (v := F.agg (argOf _)) ?_ rfl ⟨rfl, ?_⟩
    · simp [results, Tryz.results37, go_sem, F.agg, argOf, hc]
    · (repeat' (first | (with_reducible exact Below.refl _ _) | (with_reducible assumption) | (with_reducible refine Below.setCell ?_ ?_ _) | (with_reducible refine Below.alloc ?_ ?_ _) | (with_reducible refine Below.drew ?_) | (with_reducible refine below_drewN ?_ _) | (with_reducible refine Below.trans ?_ (Below.mono (by assumption) ?_)) | (simp <;> omega) | omega))
end Go.Proofs.YtjcnnjknhemimaaGreatDoor
