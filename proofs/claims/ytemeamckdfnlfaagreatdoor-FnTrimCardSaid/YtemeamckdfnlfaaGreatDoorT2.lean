/- Contracts for the name T: what spec.Call says of it. -/
import Derived.Test.YtemeamckdfnlfaaGreatDoorNo
import Derived.Test.YtemeamckdfnlfaaGreatDoorT1
namespace Go.Proofs.YtemeamckdfnlfaaGreatDoor
open Go Go.RowKit
theorem textOnly_same (k m d : Int) (t : ByteArray) (hk : k = 2 ∨ k = 4 ∨ k = 6) (A : Option Addr) (c : Nat) (w : World) (hr : Rd w w.heap.size 5 A 1 (cellsV [⟨k, m, d, t⟩])) :
    Calls Tryz.prog 121 #[.slice A 1 c] w fun e w' => e = .returned (.agg #[.int .i64 k, .int .i64 m, .int .i64 d, .string t, .slice none 0 0]) ∧ Below w.heap.size w w' := by
  obtain ⟨g, rfl, hg, h0, h1, h2, h3, h4⟩ := rdV1 hr
  clear hr
  rcases hk with rfl | rfl | rfl
  all_goals
    go_enter Tryz.func121, Tryz.ntmps121
    go_wp2_with fail
    refine bodyPost_ret (v := .agg #[.int .i64 _, .int .i64 m, .int .i64 d, .string t, .slice none 0 0]) ?_ rfl ⟨rfl, ?_⟩
    · simp [results, Tryz.results121, go_sem]
    · (repeat' (first | (with_reducible exact Below.refl _ _) | (with_reducible assumption) | (with_reducible refine Below.setCell ?_ ?_ _) | (with_reducible refine Below.alloc ?_ ?_ _) | (with_reducible refine Below.drew ?_) | (with_reducible refine below_drewN ?_ _) | (with_reducible refine Below.trans ?_ (Below.mono (by assumption) ?_)) | (simp <;> omega) | omega))

theorem textOnly_none (k m d : Int) (t : ByteArray) (hk : k = 0 ∨ k = 1 ∨ k = 3) (A : Option Addr) (c : Nat) (w : World) (hr : Rd w w.heap.size 5 A 1 (cellsV [⟨k, m, d, t⟩])) :
    Calls Tryz.prog 121 #[.slice A 1 c] w fun e w' => e = .returned (.agg #[.int .i64 2, .int .i64 0, .int .i64 0, .string ⟨#[]⟩, .slice none 0 0]) ∧ Below w.heap.size w w' := by
  obtain ⟨g, rfl, hg, h0, h1, h2, h3, h4⟩ := rdV1 hr
  clear hr
  rcases hk with rfl | rfl | rfl
  all_goals
    go_enter Tryz.func121, Tryz.ntmps121
    go_wp2_with (go_at_call 11; refine (str_any _ _).mono ?_; rintro e w1 ⟨rfl, hb⟩; obtain ⟨hc, hf⟩ := bcell hb; have hz : w.heap.size < w1.heap.size := by (have := hb.size; simp at this; omega))
    refine bodyPost_ret (v := .agg #[.int .i64 2, .int .i64 0, .int .i64 0, .string ⟨#[]⟩, .slice none 0 0]) ?_ rfl ⟨rfl, ?_⟩
    · simp [results, Tryz.results121, go_sem, hc]
    · (repeat' (first | (with_reducible exact Below.refl _ _) | (with_reducible assumption) | (with_reducible refine Below.setCell ?_ ?_ _) | (with_reducible refine Below.alloc ?_ ?_ _) | (with_reducible refine Below.drew ?_) | (with_reducible refine below_drewN ?_ _) | (with_reducible refine Below.trans ?_ (Below.mono (by assumption) ?_)) | (simp <;> omega) | omega))

/-- What T says of a value. -/
def tOnly (v : V) : V := if v.k = 2 ∨ v.k = 4 ∨ v.k = 6 then v else ⟨2, 0, 0, ⟨#[]⟩⟩
def V.agg (v : V) : Value := .agg #[.int .i64 v.k, .int .i64 v.n, .int .i64 v.d, .string v.t, .slice none 0 0]
theorem textOnly_any (v : V) (hk : v.k = 2 ∨ v.k = 4 ∨ v.k = 6 ∨ v.k = 0 ∨ v.k = 1 ∨ v.k = 3) (A : Option Addr) (c : Nat) (w : World) (hr : Rd w w.heap.size 5 A 1 (cellsV [v])) :
    Calls Tryz.prog 121 #[.slice A 1 c] w fun e w' => ∃ (k n d : Int) (t : ByteArray), V.mk k n d t = tOnly v ∧ e = .returned (.agg #[.int .i64 k, .int .i64 n, .int .i64 d, .string t, .slice none 0 0]) ∧ Below w.heap.size w w' := by
  obtain ⟨k, m, d, t⟩ := v
  by_cases h : k = 2 ∨ k = 4 ∨ k = 6
  · exact (textOnly_same k m d t h A c w hr).mono fun e w' ⟨he, hb⟩ => ⟨k, m, d, t, by unfold tOnly; rw [if_pos h], he, hb⟩
  · exact (textOnly_none k m d t (by simp at hk; omega) A c w hr).mono fun e w' ⟨he, hb⟩ => ⟨2, 0, 0, ⟨#[]⟩, by unfold tOnly; rw [if_neg h], he, hb⟩

set_option maxRecDepth 100000 in
set_option maxHeartbeats 2000000 in
theorem callText_T (v : V) (hk : v.k = 2 ∨ v.k = 4 ∨ v.k = 6 ∨ v.k = 0 ∨ v.k = 1 ∨ v.k = 3) (A : Option Addr) (c : Nat) (w : World) (hr : Rd w w.heap.size 5 A 1 (cellsV [v])) :
    Calls Tryz.prog 48 #[.string ⟨#[84]⟩, .slice A 1 c] w fun e w' => ∃ (k n d : Int) (t : ByteArray), V.mk k n d t = tOnly v ∧ e = .returned (.tuple #[.agg #[.int .i64 k, .int .i64 n, .int .i64 d, .string t, .slice none 0 0], .bool true]) ∧ Below w.heap.size w w' := by
  have HR := hide hr
  clear hr
  go_enter Tryz.func48, Tryz.ntmps48
  go_wp2_with fail
  refine (textOnly_any v hk A c _ ?_).mono ?_
  · exact (HR.out.alloc (Nat.le_refl _) _).more (by simp)
  rintro e w1 ⟨k, n, d, t, hv, rfl, hb⟩
  obtain ⟨hc, hf⟩ := bcell hb
  have hz : w.heap.size < w1.heap.size := by (have := hb.size; simp at this; omega)
  have HV := hide hv
  clear hv
  go_wp2_with fail
  refine bodyPost_ret (v := .tuple #[.agg #[.int .i64 k, .int .i64 n, .int .i64 d, .string t, .slice none 0 0], .bool true]) ?_ rfl ⟨k, n, d, t, HV.out, rfl, ?_⟩
  · simp [results, Tryz.results48, go_sem, hc]
  · (repeat' (first | (with_reducible exact Below.refl _ _) | (with_reducible assumption) | (with_reducible refine Below.setCell ?_ ?_ _) | (with_reducible refine Below.alloc ?_ ?_ _) | (with_reducible refine Below.drew ?_) | (with_reducible refine below_drewN ?_ _) | (with_reducible refine Below.trans ?_ (Below.mono (by assumption) ?_)) | (simp <;> omega) | omega))

/-- The answer of the reference: nothing is said, or this value. -/
def Wanted (want : V) (w : World) (e : Ending) (w' : World) : Prop := ∃ (k n d : Int) (t : ByteArray), (V.mk k n d t = ⟨6, 0, 0, ⟨#[]⟩⟩ ∨ V.mk k n d t = want) ∧ e = .returned (.agg #[.int .i64 k, .int .i64 n, .int .i64 d, .string t, .slice none 0 0]) ∧ Below w.heap.size w w'

set_option maxRecDepth 100000 in
set_option maxHeartbeats 2000000 in
theorem callOver_T (v : V) (hk : v.k = 2 ∨ v.k = 4 ∨ v.k = 6 ∨ v.k = 0 ∨ v.k = 1 ∨ v.k = 3) (ht : v.t.size ≤ 1000) (A : Option Addr) (c : Nat) (w : World) (hr : Rd w w.heap.size 5 A 1 (cellsV [v])) :
    Calls Tryz.prog 31 #[.string ⟨#[84]⟩, .slice A 1 c, .slice A 1 c] w (Wanted (tOnly v) w) := by
  have HR := hide hr
  clear hr
  go_enter Tryz.func31, Tryz.ntmps31
  go_wp2_with fail
  refine (fits_T v.k v.n v.d v.t ht A c _ ((HR.out.alloc (Nat.le_refl _) _).more (by simp))).mono ?_
  rintro e w1 ⟨b, rfl, hb1⟩
  obtain ⟨hc1, hf1⟩ := bcell hb1
  have hz1 : w.heap.size < w1.heap.size := by (have := hb1.size; simp at this; omega)
  cases b
  · go_wp2_with (go_at_call 43; refine (doubt_any _).mono ?_; rintro e w4 ⟨rfl, hb4⟩; obtain ⟨hc4, hf4⟩ := bcell hb4; have hz4 : w.heap.size < w4.heap.size := by (have := hb4.size; omega))
    refine bodyPost_ret (v := .agg #[.int .i64 6, .int .i64 0, .int .i64 0, .string ⟨#[]⟩, .slice none 0 0]) ?_ rfl ⟨6, 0, 0, ⟨#[]⟩, .inl rfl, rfl, ?_⟩
    · simp [results, Tryz.results31, go_sem, *]
    · (repeat' (first | (with_reducible exact Below.refl _ _) | (with_reducible assumption) | (with_reducible refine Below.setCell ?_ ?_ _) | (with_reducible refine Below.alloc ?_ ?_ _) | (with_reducible refine Below.drew ?_) | (with_reducible refine below_drewN ?_ _) | (with_reducible refine Below.trans ?_ (Below.mono (by assumption) ?_)) | (simp <;> omega) | omega))
  · go_wp2_with (first
      | (go_at_call 44; refine (Stat_T _ _).mono ?_; rintro e w2 ⟨rfl, hb2⟩; obtain ⟨hc2, hf2⟩ := bcell hb2; have hz2 : w.heap.size < w2.heap.size := by (have := hb2.size; first | omega | (simp at this; omega)))
      | (go_at_call 45; refine (Criteria_T _ _).mono ?_; rintro e w3 ⟨rfl, hb3⟩; obtain ⟨hc3, hf3⟩ := bcell hb3; have hz3 : w.heap.size < w3.heap.size := by (have := hb3.size; first | omega | (simp at this; omega)))
      | (go_at_call 46; refine (Lookup_T _ _).mono ?_; rintro e w4 ⟨rfl, hb4⟩; obtain ⟨hc4, hf4⟩ := bcell hb4; have hz4 : w.heap.size < w4.heap.size := by (have := hb4.size; first | omega | (simp at this; omega)))
      | (go_at_call 47; refine (CallMath_T _ _).mono ?_; rintro e w5 ⟨rfl, hb5⟩; obtain ⟨hc5, hf5⟩ := bcell hb5; have hz5 : w.heap.size < w5.heap.size := by (have := hb5.size; first | omega | (simp at this; omega))))
    clear hc1 hf1 hc2 hf2 hc3 hf3 hc4 hf4 hc5 hf5
    have hbelow : Below (w.heap.size + 1) (w.alloc (.cells #[.int .i64 0, .int .i64 0, .int .i64 0, .string ⟨#[]⟩, .slice none 0 0] 27)) w5 := by (repeat' (first | (with_reducible exact Below.refl _ _) | (with_reducible assumption) | (with_reducible refine Below.setCell ?_ ?_ _) | (with_reducible refine Below.alloc ?_ ?_ _) | (with_reducible refine Below.drew ?_) | (with_reducible refine below_drewN ?_ _) | (with_reducible refine Below.trans ?_ (Below.mono (by assumption) ?_)) | (simp <;> omega) | omega))
    have hbel0 : Below w.heap.size w w5 := (Below.alloc (Below.refl _ _) (Nat.le_refl _) _).trans (hbelow.mono (by omega))
    clear hb1 hb2 hb3 hb4 hb5 hz1 hz2 hz3 hz4
    refine (callText_T v hk A c _ ?_).mono ?_
    · exact ((HR.out.below hbel0).alloc hbel0.size _).more (by simp; omega)
    rintro e w6 ⟨k, n, d, t, hv, rfl, hb6⟩
    have hbel6 : Below (w.heap.size + 1) (w.alloc (.cells #[.int .i64 0, .int .i64 0, .int .i64 0, .string ⟨#[]⟩, .slice none 0 0] 27)) w6 := by (repeat' (first | (with_reducible exact Below.refl _ _) | (with_reducible assumption) | (with_reducible refine Below.setCell ?_ ?_ _) | (with_reducible refine Below.alloc ?_ ?_ _) | (with_reducible refine Below.drew ?_) | (with_reducible refine below_drewN ?_ _) | (with_reducible refine Below.trans ?_ (Below.mono (by assumption) ?_)) | (simp <;> omega) | omega))
    obtain ⟨hc6, hf6, hz6⟩ := own_cells hbel6
    have hbel7 : Below w.heap.size w w6 := (Below.alloc (Below.refl _ _) (Nat.le_refl _) _).trans (hbel6.mono (by omega))
    clear hb6 hbel6 hbelow hbel0
    have HV := hide hv
    clear hv
    go_wp2_with fail
    refine bodyPost_ret (v := .agg #[.int .i64 k, .int .i64 n, .int .i64 d, .string t, .slice none 0 0]) ?_ rfl ⟨k, n, d, t, .inr HV.out, rfl, ?_⟩
    · simp [results, Tryz.results31, go_sem, hc6, hz6]
    · (repeat' (first | (with_reducible exact Below.refl _ _) | (with_reducible assumption) | (with_reducible refine Below.setCell ?_ ?_ _) | (with_reducible refine Below.alloc ?_ ?_ _) | (with_reducible refine Below.drew ?_) | (with_reducible refine below_drewN ?_ _) | (with_reducible refine Below.trans ?_ (Below.mono (by assumption) ?_)) | (simp <;> omega) | omega))

theorem call_T (v : V) (hk : v.k = 2 ∨ v.k = 4 ∨ v.k = 6 ∨ v.k = 0 ∨ v.k = 1 ∨ v.k = 3) (ht : v.t.size ≤ 1000) (A : Option Addr) (c : Nat) (w : World) (hr : Rd w w.heap.size 5 A 1 (cellsV [v])) :
    Calls Tryz.prog 17 #[.string ⟨#[84]⟩, .slice A 1 c] w (Wanted (tOnly v) w) := by
  have HR := hide hr
  clear hr
  go_enter Tryz.func17, Tryz.ntmps17
  go_wp2_with fail
  refine (callOver_T v hk ht A c _ ((HR.out.alloc (Nat.le_refl _) _).more (by simp))).mono ?_
  rintro e w1 ⟨k, n, d, t, hv, rfl, hb1⟩
  obtain ⟨hc1, hf1⟩ := bcell hb1
  have hz1 : w.heap.size < w1.heap.size := by (have := hb1.size; simp at this; omega)
  have HV := hide hv
  clear hv
  go_wp2_with fail
  refine bodyPost_ret (v := .agg #[.int .i64 k, .int .i64 n, .int .i64 d, .string t, .slice none 0 0]) ?_ rfl ⟨k, n, d, t, HV.out, rfl, ?_⟩
  · simp [results, Tryz.results17, go_sem, *]
  · (repeat' (first | (with_reducible exact Below.refl _ _) | (with_reducible assumption) | (with_reducible refine Below.setCell ?_ ?_ _) | (with_reducible refine Below.alloc ?_ ?_ _) | (with_reducible refine Below.drew ?_) | (with_reducible refine below_drewN ?_ _) | (with_reducible refine Below.trans ?_ (Below.mono (by assumption) ?_)) | (simp <;> omega) | omega))
end Go.Proofs.YtemeamckdfnlfaaGreatDoor
