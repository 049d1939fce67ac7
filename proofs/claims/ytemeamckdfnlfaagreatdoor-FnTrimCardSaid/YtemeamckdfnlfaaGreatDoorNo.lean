/- Contracts: each of the reference's tellers by name says of the names T, AND and TRIM that it is none of its own. -/
import Derived.Test.YtemeamckdfnlfaaGreatDoorS1
namespace Go.Proofs.YtemeamckdfnlfaaGreatDoor
open Go Go.RowKit
/-- A block of the call's own, behind calls that leave it alone. -/
theorem own_cells {w w' : World} {C : Array Value} {t : TypeId} (hb : Below (w.heap.size + 1) (w.alloc (.cells C t)) w') :
    (∀ o, w'.cell? ⟨w.heap.size, o, none⟩ = C[o]?) ∧ (∀ o, w'.frozen? ⟨w.heap.size, o, none⟩ = false) ∧ w.heap.size < w'.heap.size := by
  refine ⟨fun o => (hb.cell (p := ⟨w.heap.size, o, none⟩) (by simp)).trans (World.cell?_alloc_mark w C t (0, 0) o), fun o => ?_, ?_⟩
  · rw [hb.frozen (p := ⟨w.heap.size, o, none⟩) (by simp), World.frozen?_alloc_mark]
    simp
  · have := hb.size
    simp at this
    omega
/-- 'None of this name here.' -/
def NoTell (w : World) (e : Ending) (w' : World) : Prop := e = .returned (.tuple #[.agg #[.int .i64 0, .int .i64 0, .int .i64 0, .string ⟨#[]⟩, .slice none 0 0], .bool false]) ∧ Below w.heap.size w w'

set_option maxRecDepth 100000 in
set_option maxHeartbeats 2000000 in
theorem Stat_T (x : Value) (w : World) : Calls Tryz.prog 44 #[.string ⟨#[84]⟩, x] w (NoTell w) := by
  go_enter Tryz.func44, Tryz.ntmps44
  go_wp2_with fail
  refine bodyPost_ret (v := .tuple #[.agg #[.int .i64 0, .int .i64 0, .int .i64 0, .string ⟨#[]⟩, .slice none 0 0], .bool false]) ?_ rfl ⟨rfl, ?_⟩
  · simp [results, Tryz.results44, go_sem]
  · (repeat' (first | (with_reducible exact Below.refl _ _) | (with_reducible assumption) | (with_reducible refine Below.setCell ?_ ?_ _) | (with_reducible refine Below.alloc ?_ ?_ _) | (with_reducible refine Below.drew ?_) | (with_reducible refine below_drewN ?_ _) | (with_reducible refine Below.trans ?_ (Below.mono (by assumption) ?_)) | (simp <;> omega) | omega))

set_option maxRecDepth 100000 in
set_option maxHeartbeats 2000000 in
theorem Criteria_T (x : Value) (w : World) : Calls Tryz.prog 45 #[.string ⟨#[84]⟩, x] w (NoTell w) := by
  go_enter Tryz.func45, Tryz.ntmps45
  go_wp2_with fail
  refine bodyPost_ret (v := .tuple #[.agg #[.int .i64 0, .int .i64 0, .int .i64 0, .string ⟨#[]⟩, .slice none 0 0], .bool false]) ?_ rfl ⟨rfl, ?_⟩
  · simp [results, Tryz.results45, go_sem]
  · (repeat' (first | (with_reducible exact Below.refl _ _) | (with_reducible assumption) | (with_reducible refine Below.setCell ?_ ?_ _) | (with_reducible refine Below.alloc ?_ ?_ _) | (with_reducible refine Below.drew ?_) | (with_reducible refine below_drewN ?_ _) | (with_reducible refine Below.trans ?_ (Below.mono (by assumption) ?_)) | (simp <;> omega) | omega))

set_option maxRecDepth 100000 in
set_option maxHeartbeats 2000000 in
theorem Lookup_T (x : Value) (w : World) : Calls Tryz.prog 46 #[.string ⟨#[84]⟩, x] w (NoTell w) := by
  go_enter Tryz.func46, Tryz.ntmps46
  go_wp2_with fail
  refine bodyPost_ret (v := .tuple #[.agg #[.int .i64 0, .int .i64 0, .int .i64 0, .string ⟨#[]⟩, .slice none 0 0], .bool false]) ?_ rfl ⟨rfl, ?_⟩
  · simp [results, Tryz.results46, go_sem]
  · (repeat' (first | (with_reducible exact Below.refl _ _) | (with_reducible assumption) | (with_reducible refine Below.setCell ?_ ?_ _) | (with_reducible refine Below.alloc ?_ ?_ _) | (with_reducible refine Below.drew ?_) | (with_reducible refine below_drewN ?_ _) | (with_reducible refine Below.trans ?_ (Below.mono (by assumption) ?_)) | (simp <;> omega) | omega))

set_option maxRecDepth 100000 in
set_option maxHeartbeats 2000000 in
theorem CallMath_T (x : Value) (w : World) : Calls Tryz.prog 47 #[.string ⟨#[84]⟩, x] w (NoTell w) := by
  go_enter Tryz.func47, Tryz.ntmps47
  go_wp2_with fail
  refine bodyPost_ret (v := .tuple #[.agg #[.int .i64 0, .int .i64 0, .int .i64 0, .string ⟨#[]⟩, .slice none 0 0], .bool false]) ?_ rfl ⟨rfl, ?_⟩
  · simp [results, Tryz.results47, go_sem]
  · (repeat' (first | (with_reducible exact Below.refl _ _) | (with_reducible assumption) | (with_reducible refine Below.setCell ?_ ?_ _) | (with_reducible refine Below.alloc ?_ ?_ _) | (with_reducible refine Below.drew ?_) | (with_reducible refine below_drewN ?_ _) | (with_reducible refine Below.trans ?_ (Below.mono (by assumption) ?_)) | (simp <;> omega) | omega))

set_option maxRecDepth 100000 in
set_option maxHeartbeats 2000000 in
theorem Stat_AND (x : Value) (w : World) : Calls Tryz.prog 44 #[.string ⟨#[65, 78, 68]⟩, x] w (NoTell w) := by
  go_enter Tryz.func44, Tryz.ntmps44
  go_wp2_with fail
  refine bodyPost_ret (v := .tuple #[.agg #[.int .i64 0, .int .i64 0, .int .i64 0, .string ⟨#[]⟩, .slice none 0 0], .bool false]) ?_ rfl ⟨rfl, ?_⟩
  · simp [results, Tryz.results44, go_sem]
  · (repeat' (first | (with_reducible exact Below.refl _ _) | (with_reducible assumption) | (with_reducible refine Below.setCell ?_ ?_ _) | (with_reducible refine Below.alloc ?_ ?_ _) | (with_reducible refine Below.drew ?_) | (with_reducible refine below_drewN ?_ _) | (with_reducible refine Below.trans ?_ (Below.mono (by assumption) ?_)) | (simp <;> omega) | omega))

set_option maxRecDepth 100000 in
set_option maxHeartbeats 2000000 in
theorem Criteria_AND (x : Value) (w : World) : Calls Tryz.prog 45 #[.string ⟨#[65, 78, 68]⟩, x] w (NoTell w) := by
  go_enter Tryz.func45, Tryz.ntmps45
  go_wp2_with fail
  refine bodyPost_ret (v := .tuple #[.agg #[.int .i64 0, .int .i64 0, .int .i64 0, .string ⟨#[]⟩, .slice none 0 0], .bool false]) ?_ rfl ⟨rfl, ?_⟩
  · simp [results, Tryz.results45, go_sem]
  · (repeat' (first | (with_reducible exact Below.refl _ _) | (with_reducible assumption) | (with_reducible refine Below.setCell ?_ ?_ _) | (with_reducible refine Below.alloc ?_ ?_ _) | (with_reducible refine Below.drew ?_) | (with_reducible refine below_drewN ?_ _) | (with_reducible refine Below.trans ?_ (Below.mono (by assumption) ?_)) | (simp <;> omega) | omega))

set_option maxRecDepth 100000 in
set_option maxHeartbeats 2000000 in
theorem Lookup_AND (x : Value) (w : World) : Calls Tryz.prog 46 #[.string ⟨#[65, 78, 68]⟩, x] w (NoTell w) := by
  go_enter Tryz.func46, Tryz.ntmps46
  go_wp2_with fail
  refine bodyPost_ret (v := .tuple #[.agg #[.int .i64 0, .int .i64 0, .int .i64 0, .string ⟨#[]⟩, .slice none 0 0], .bool false]) ?_ rfl ⟨rfl, ?_⟩
  · simp [results, Tryz.results46, go_sem]
  · (repeat' (first | (with_reducible exact Below.refl _ _) | (with_reducible assumption) | (with_reducible refine Below.setCell ?_ ?_ _) | (with_reducible refine Below.alloc ?_ ?_ _) | (with_reducible refine Below.drew ?_) | (with_reducible refine below_drewN ?_ _) | (with_reducible refine Below.trans ?_ (Below.mono (by assumption) ?_)) | (simp <;> omega) | omega))

set_option maxRecDepth 100000 in
set_option maxHeartbeats 2000000 in
theorem CallMath_AND (x : Value) (w : World) : Calls Tryz.prog 47 #[.string ⟨#[65, 78, 68]⟩, x] w (NoTell w) := by
  go_enter Tryz.func47, Tryz.ntmps47
  go_wp2_with fail
  refine bodyPost_ret (v := .tuple #[.agg #[.int .i64 0, .int .i64 0, .int .i64 0, .string ⟨#[]⟩, .slice none 0 0], .bool false]) ?_ rfl ⟨rfl, ?_⟩
  · simp [results, Tryz.results47, go_sem]
  · (repeat' (first | (with_reducible exact Below.refl _ _) | (with_reducible assumption) | (with_reducible refine Below.setCell ?_ ?_ _) | (with_reducible refine Below.alloc ?_ ?_ _) | (with_reducible refine Below.drew ?_) | (with_reducible refine below_drewN ?_ _) | (with_reducible refine Below.trans ?_ (Below.mono (by assumption) ?_)) | (simp <;> omega) | omega))

set_option maxRecDepth 100000 in
set_option maxHeartbeats 2000000 in
theorem CallText_AND (x : Value) (w : World) : Calls Tryz.prog 48 #[.string ⟨#[65, 78, 68]⟩, x] w (NoTell w) := by
  go_enter Tryz.func48, Tryz.ntmps48
  go_wp2_with fail
  refine bodyPost_ret (v := .tuple #[.agg #[.int .i64 0, .int .i64 0, .int .i64 0, .string ⟨#[]⟩, .slice none 0 0], .bool false]) ?_ rfl ⟨rfl, ?_⟩
  · simp [results, Tryz.results48, go_sem]
  · (repeat' (first | (with_reducible exact Below.refl _ _) | (with_reducible assumption) | (with_reducible refine Below.setCell ?_ ?_ _) | (with_reducible refine Below.alloc ?_ ?_ _) | (with_reducible refine Below.drew ?_) | (with_reducible refine below_drewN ?_ _) | (with_reducible refine Below.trans ?_ (Below.mono (by assumption) ?_)) | (simp <;> omega) | omega))

set_option maxRecDepth 100000 in
set_option maxHeartbeats 2000000 in
theorem Stat_TRIM (x : Value) (w : World) : Calls Tryz.prog 44 #[.string ⟨#[84, 82, 73, 77]⟩, x] w (NoTell w) := by
  go_enter Tryz.func44, Tryz.ntmps44
  go_wp2_with fail
  refine bodyPost_ret (v := .tuple #[.agg #[.int .i64 0, .int .i64 0, .int .i64 0, .string ⟨#[]⟩, .slice none 0 0], .bool false]) ?_ rfl ⟨rfl, ?_⟩
  · simp [results, Tryz.results44, go_sem]
  · (repeat' (first | (with_reducible exact Below.refl _ _) | (with_reducible assumption) | (with_reducible refine Below.setCell ?_ ?_ _) | (with_reducible refine Below.alloc ?_ ?_ _) | (with_reducible refine Below.drew ?_) | (with_reducible refine below_drewN ?_ _) | (with_reducible refine Below.trans ?_ (Below.mono (by assumption) ?_)) | (simp <;> omega) | omega))

set_option maxRecDepth 100000 in
set_option maxHeartbeats 2000000 in
theorem Criteria_TRIM (x : Value) (w : World) : Calls Tryz.prog 45 #[.string ⟨#[84, 82, 73, 77]⟩, x] w (NoTell w) := by
  go_enter Tryz.func45, Tryz.ntmps45
  go_wp2_with fail
  refine bodyPost_ret (v := .tuple #[.agg #[.int .i64 0, .int .i64 0, .int .i64 0, .string ⟨#[]⟩, .slice none 0 0], .bool false]) ?_ rfl ⟨rfl, ?_⟩
  · simp [results, Tryz.results45, go_sem]
  · (repeat' (first | (with_reducible exact Below.refl _ _) | (with_reducible assumption) | (with_reducible refine Below.setCell ?_ ?_ _) | (with_reducible refine Below.alloc ?_ ?_ _) | (with_reducible refine Below.drew ?_) | (with_reducible refine below_drewN ?_ _) | (with_reducible refine Below.trans ?_ (Below.mono (by assumption) ?_)) | (simp <;> omega) | omega))

set_option maxRecDepth 100000 in
set_option maxHeartbeats 2000000 in
theorem Lookup_TRIM (x : Value) (w : World) : Calls Tryz.prog 46 #[.string ⟨#[84, 82, 73, 77]⟩, x] w (NoTell w) := by
  go_enter Tryz.func46, Tryz.ntmps46
  go_wp2_with fail
  refine bodyPost_ret (v := .tuple #[.agg #[.int .i64 0, .int .i64 0, .int .i64 0, .string ⟨#[]⟩, .slice none 0 0], .bool false]) ?_ rfl ⟨rfl, ?_⟩
  · simp [results, Tryz.results46, go_sem]
  · (repeat' (first | (with_reducible exact Below.refl _ _) | (with_reducible assumption) | (with_reducible refine Below.setCell ?_ ?_ _) | (with_reducible refine Below.alloc ?_ ?_ _) | (with_reducible refine Below.drew ?_) | (with_reducible refine below_drewN ?_ _) | (with_reducible refine Below.trans ?_ (Below.mono (by assumption) ?_)) | (simp <;> omega) | omega))

set_option maxRecDepth 100000 in
set_option maxHeartbeats 2000000 in
theorem CallMath_TRIM (x : Value) (w : World) : Calls Tryz.prog 47 #[.string ⟨#[84, 82, 73, 77]⟩, x] w (NoTell w) := by
  go_enter Tryz.func47, Tryz.ntmps47
  go_wp2_with fail
  refine bodyPost_ret (v := .tuple #[.agg #[.int .i64 0, .int .i64 0, .int .i64 0, .string ⟨#[]⟩, .slice none 0 0], .bool false]) ?_ rfl ⟨rfl, ?_⟩
  · simp [results, Tryz.results47, go_sem]
  · (repeat' (first | (with_reducible exact Below.refl _ _) | (with_reducible assumption) | (with_reducible refine Below.setCell ?_ ?_ _) | (with_reducible refine Below.alloc ?_ ?_ _) | (with_reducible refine Below.drew ?_) | (with_reducible refine below_drewN ?_ _) | (with_reducible refine Below.trans ?_ (Below.mono (by assumption) ?_)) | (simp <;> omega) | omega))
end Go.Proofs.YtemeamckdfnlfaaGreatDoor
