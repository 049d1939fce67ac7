/- Contracts for the name AND: spec.kinds, the closure of spec.fitsChoices, spec.every over it, spec.Fits. -/
import Derived.Test.YtemeamckdfnlfaaGreatDoorT2
import Derived.Test.YtemeamckdfnlfaaGreatDoorL2
namespace Go.Proofs.YtemeamckdfnlfaaGreatDoor
open Go Go.RowKit
/-- What the laws hand to AND: truths, numbers, or Unsure; no long text. -/
def AndV (v : V) : Prop := (v.k = 1 ∨ v.k = 3 ∨ v.k = 6) ∧ v.t.size ≤ 1000
theorem AndV.plain {vs : List V} (h : ∀ v ∈ vs, AndV v) : Plain vs := fun v hv e => by
  have := (h v hv).1
  omega
theorem AndV.short {vs : List V} (h : ∀ v ∈ vs, AndV v) : Short vs := fun v hv => (h v hv).2
set_option maxRecDepth 100000 in
theorem kinds_not (k m d : Int) (t : ByteArray) (hk : k ≠ 5) (sl : Value) (w : World) : Calls Tryz.prog 92 #[.agg #[.int .i64 k, .int .i64 m, .int .i64 d, .string t, .slice none 0 0], sl] w fun e w' => e = .returned (.bool false) ∧ Below w.heap.size w w' := by
  go_enter Tryz.func92, Tryz.ntmps92
  go_wp2_with fail
  go_ret
  exact ⟨rfl, by (repeat' (first | (with_reducible exact Below.refl _ _) | (with_reducible assumption) | (with_reducible refine Below.setCell ?_ ?_ _) | (with_reducible refine Below.alloc ?_ ?_ _) | (with_reducible refine Below.drew ?_) | (with_reducible refine below_drewN ?_ _) | (with_reducible refine Below.trans ?_ (Below.mono (by assumption) ?_)) | (simp <;> omega) | omega))⟩
set_option maxRecDepth 100000 in
theorem andClosure_any (k m d : Int) (t : ByteArray) (hk : k = 1 ∨ k = 3 ∨ k = 6) (g : Nat) (w : World) (hg : g < w.heap.size) (hn : w.cell? ⟨g, 0, none⟩ = some (.string ⟨#[65, 78, 68]⟩)) :
    Calls Tryz.prog 155 #[.agg #[.int .i64 k, .int .i64 m, .int .i64 d, .string t, .slice none 0 0], .pointer (some ⟨g, 0, none⟩)] w (SomeBool w) := by
  rcases hk with rfl | rfl | rfl
  all_goals
    go_enter Tryz.func155, Tryz.ntmps155
    go_wp2_with (go_at_call 92; refine (kinds_not _ _ _ _ (by decide) _ _).mono ?_; rintro e w1 ⟨rfl, hb1⟩)
    go_ret
    exact ⟨_, rfl, by (repeat' (first | (with_reducible exact Below.refl _ _) | (with_reducible assumption) | (with_reducible refine Below.setCell ?_ ?_ _) | (with_reducible refine Below.alloc ?_ ?_ _) | (with_reducible refine Below.drew ?_) | (with_reducible refine below_drewN ?_ _) | (with_reducible refine Below.trans ?_ (Below.mono (by assumption) ?_)) | (simp <;> omega) | omega))⟩

set_option maxHeartbeats 400000 in
theorem every_and (vs : List V) (hv : ∀ v ∈ vs, AndV v) (A : Option Addr) (n c : Nat) (hn : n ≤ 1000) (G : Nat) (w : World) (hr : Rd w w.heap.size 5 A n (cellsV vs)) (hG : G < w.heap.size) (hcell : w.cell? ⟨G, 0, none⟩ = some (.string ⟨#[65, 78, 68]⟩)) :
    Calls Tryz.prog 142 #[.slice A n c, .func (.func 155) #[] #[.pointer (some ⟨G, 0, none⟩)]] w (SomeBool w) := by
  have HR := hide hr
  have HS := hide hv
  have HC := hide hcell
  clear hr hv hcell
  go_enter Tryz.func142, Tryz.ntmps142
  go_wp2_with fail
  go_loopw [5] (fun i wr => ∃ k : Nat, k ≤ n ∧ i = .int .i64 k ∧ Below w.heap.size w wr) (fun i _ => n - (intOf i).toNat)
  case atStart => exact ⟨0, by omega, rfl, Below.refl _ _⟩
  case round =>
    obtain ⟨k, hk, rfl, hb⟩ := hrel
    by_cases hlt : k < n
    · obtain ⟨g, kk, m, d, t, rfl, hg, hv, h0, h1, h2, h3, h4⟩ := rdV (HR.out.below hb) k hlt
      have hkk := hide (HS.out _ (List.mem_of_getElem? hv)).1
      have hz := hb.size
      have hcw := hide ((hb.cell (p := ⟨G, 0, none⟩) hG).trans HC.out)
      clear hv
      go_wp2_with (go_at_call 155; refine (andClosure_any _ _ _ _ hkk.out G _ (by omega) hcw.out).mono ?_; rintro e w1 ⟨b, rfl, hb1⟩; have hz1 := hb1.size; cases b)
      all_goals first
        | (go_roundw
           case rel => exact ⟨k + 1, by omega, by go_num, by (repeat' (first | (with_reducible exact Below.refl _ _) | (with_reducible assumption) | (with_reducible refine Below.setCell ?_ ?_ _) | (with_reducible refine Below.alloc ?_ ?_ _) | (with_reducible refine Below.drew ?_) | (with_reducible refine below_drewN ?_ _) | (with_reducible refine Below.trans ?_ (Below.mono (by assumption) ?_)) | (simp <;> omega) | omega))⟩
           case measure => simp [intOf]; omega)
        | (go_ret
           exact ⟨_, rfl, by (repeat' (first | (with_reducible exact Below.refl _ _) | (with_reducible assumption) | (with_reducible refine Below.setCell ?_ ?_ _) | (with_reducible refine Below.alloc ?_ ?_ _) | (with_reducible refine Below.drew ?_) | (with_reducible refine below_drewN ?_ _) | (with_reducible refine Below.trans ?_ (Below.mono (by assumption) ?_)) | (simp <;> omega) | omega))⟩)
    · go_wp2_with fail
      go_ret
      exact ⟨_, rfl, hb⟩

set_option maxRecDepth 100000 in
set_option maxHeartbeats 2000000 in
theorem fitsNumbers_AND (vs : List V) (A : Option Addr) (n c : Nat) (w : World) (hr : Rd w w.heap.size 5 A n (cellsV vs)) (hs : Short vs) (hn : n ≤ 1000) :
    Calls Tryz.prog 66 #[.string ⟨#[65, 78, 68]⟩, .slice A n c] w fun e w' => e = .returned (.tuple #[.bool false, .bool false]) ∧ Below w.heap.size w w' := by
  have HE := hide (every_numeric vs A n c w hr hs hn)
  clear hr hs
  go_enter Tryz.func66, Tryz.ntmps66
  go_wp2_with (go_at_call 142; refine HE.out.mono ?_; rintro e w1 ⟨b, rfl, hb1⟩)
  go_ret2
  exact ⟨rfl, hb1⟩
set_option maxRecDepth 100000 in
set_option maxHeartbeats 2000000 in
theorem fitsTexts_AND (A : Option Addr) (n c : Nat) (w : World) :
    Calls Tryz.prog 67 #[.string ⟨#[65, 78, 68]⟩, .slice A n c] w fun e w' => e = .returned (.tuple #[.bool false, .bool false]) ∧ Below w.heap.size w w' := by
  go_enter Tryz.func67, Tryz.ntmps67
  go_wp2_with fail
  go_ret2
  exact ⟨rfl, by (repeat' (first | (with_reducible exact Below.refl _ _) | (with_reducible assumption) | (with_reducible refine Below.setCell ?_ ?_ _) | (with_reducible refine Below.alloc ?_ ?_ _) | (with_reducible refine Below.drew ?_) | (with_reducible refine below_drewN ?_ _) | (with_reducible refine Below.trans ?_ (Below.mono (by assumption) ?_)) | (simp <;> omega) | omega))⟩
set_option maxRecDepth 100000 in
set_option maxHeartbeats 2000000 in
theorem fitsChoices_AND (vs : List V) (hv : ∀ v ∈ vs, AndV v) (A : Option Addr) (n c : Nat) (hn : n ≤ 30) (w : World) (hr : Rd w w.heap.size 5 A n (cellsV vs)) :
    Calls Tryz.prog 68 #[.string ⟨#[65, 78, 68]⟩, .slice A n c] w (SomeTell true w) := by
  have HE := hide (every_and vs hv A n c (by omega) w.heap.size (w.alloc (.cells #[.string ⟨#[65, 78, 68]⟩] 9)) ((hr.alloc (Nat.le_refl _) _).more (by simp)) (by simp) (by simp))
  clear hr hv
  by_cases h0 : n = 0
  · subst h0
    go_enter Tryz.func68, Tryz.ntmps68
    go_wp2_with fail
    go_ret2
    exact ⟨_, rfl, by (repeat' (first | (with_reducible exact Below.refl _ _) | (with_reducible assumption) | (with_reducible refine Below.setCell ?_ ?_ _) | (with_reducible refine Below.alloc ?_ ?_ _) | (with_reducible refine Below.drew ?_) | (with_reducible refine below_drewN ?_ _) | (with_reducible refine Below.trans ?_ (Below.mono (by assumption) ?_)) | (simp <;> omega) | omega))⟩
  · have h1 : 0 < n := by omega
    go_enter Tryz.func68, Tryz.ntmps68
    go_wp2_with (go_at_call 142; refine HE.out.mono ?_; rintro e w1 ⟨b, rfl, hb1⟩)
    all_goals
      go_ret2
      exact ⟨_, rfl, by (repeat' (first | (with_reducible exact Below.refl _ _) | (with_reducible assumption) | (with_reducible refine Below.setCell ?_ ?_ _) | (with_reducible refine Below.alloc ?_ ?_ _) | (with_reducible refine Below.drew ?_) | (with_reducible refine below_drewN ?_ _) | (with_reducible refine Below.trans ?_ (Below.mono (by assumption) ?_)) | (simp <;> omega) | omega))⟩
theorem fits_AND (vs : List V) (hv : ∀ v ∈ vs, AndV v) (A : Option Addr) (n c : Nat) (hn : n ≤ 30) (w : World) (hr : Rd w w.heap.size 5 A n (cellsV vs)) :
    Calls Tryz.prog 42 #[.string ⟨#[65, 78, 68]⟩, .slice A n c] w (SomeBool w) := by
  have HR := hide hr
  have HV := hide hv
  have H1 := hide (fitsNumbers_AND vs A n c w hr (AndV.short hv) (by omega))
  clear hr hv
  go_enter Tryz.func42, Tryz.ntmps42
  go_wp2_with fail
  refine H1.out.mono ?_
  rintro e w1 ⟨rfl, hb1⟩
  have hz := hb1.size
  go_wp2_with fail
  refine (fitsTexts_AND A n c _).mono ?_
  rintro e w2 ⟨rfl, hb2⟩
  have hb02 : Below w.heap.size w w2 := by (repeat' (first | (with_reducible exact Below.refl _ _) | (with_reducible assumption) | (with_reducible refine Below.setCell ?_ ?_ _) | (with_reducible refine Below.alloc ?_ ?_ _) | (with_reducible refine Below.drew ?_) | (with_reducible refine below_drewN ?_ _) | (with_reducible refine Below.trans ?_ (Below.mono (by assumption) ?_)) | (simp <;> omega) | omega))
  go_wp2_with fail
  refine (fitsChoices_AND vs HV.out A n c hn _ ((HR.out.below hb02).more hb02.size)).mono ?_
  rintro e w3 ⟨b, rfl, hb3⟩
  have hz2 := hb02.size
  go_wp2_with fail
  go_ret
  exact ⟨_, rfl, hb02.trans (hb3.mono hz2)⟩
end Go.Proofs.YtemeamckdfnlfaaGreatDoor
