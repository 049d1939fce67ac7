/- Contracts of the laws' makers of arguments: argWhole, argPart. -/
import Derived.Test.YtemeamckdfnlfaaGreatDoorS5
import Derived.Test.YtemeamckdfnlfaaGreatDoorVals
import Derived.Test.YtemeamckdfnlfaaGreatDoorL3
namespace Go.Proofs.YtemeamckdfnlfaaGreatDoor
open Go Go.RowKit
theorem argPart_any (n : Int) (hn1 : n ≤ 9223372036854775807) (hn2 : -9223372036854775808 ≤ n) (w : World) : Calls Tryz.prog 28 #[.int .i64 n] w (RetNumb w) := by
  go_enter Tryz.func28, Tryz.ntmps28
  go_wp2_with (go_at_call 39; refine (frac_pos _ 16 (by omega) (by omega) (by omega) _).mono ?_; rintro e w1 ⟨k, n1, d1, hN, rfl, hb⟩; obtain ⟨hc, hf⟩ := bcell hb; have hz : w.heap.size < w1.heap.size := by (have := hb.size; simp at this; omega))
  all_goals
    refine bodyPost_ret (v := .agg #[.int .i64 k, .int .i64 n1, .int .i64 d1, .string ⟨#[]⟩, .slice none 0 0]) ?_ rfl ⟨k, n1, d1, hN, rfl, ?_⟩
    · simp [results, Tryz.results28, go_sem, hc]
    · (repeat' (first | (with_reducible exact Below.refl _ _) | (with_reducible assumption) | (with_reducible refine Below.setCell ?_ ?_ _) | (with_reducible refine Below.alloc ?_ ?_ _) | (with_reducible refine Below.drew ?_) | (with_reducible refine below_drewN ?_ _) | (with_reducible refine Below.trans ?_ (Below.mono (by assumption) ?_)) | (simp <;> omega) | omega))
/-- The value of a whole number. -/
def wholeV (n : Int) : V := if 99999999999 < n ∨ n < -99999999999 then ⟨6, 0, 0, ⟨#[]⟩⟩ else ⟨1, n, 1, ⟨#[]⟩⟩
theorem argWhole_any (n : Int) (w : World) : Calls Tryz.prog 25 #[.int .i64 n] w fun e w' => e = .returned (.agg #[.int .i64 (wholeV n).k, .int .i64 (wholeV n).n, .int .i64 (wholeV n).d, .string (wholeV n).t, .slice none 0 0]) ∧ Below w.heap.size w w' := by
  by_cases h : 99999999999 < n ∨ n < -99999999999
  · rw [wholeV, if_pos h]
    go_enter Tryz.func25, Tryz.ntmps25
    go_wp2_with (go_at_call 38; refine (int_great n h _).mono ?_; rintro e w1 ⟨rfl, hb⟩; obtain ⟨hc, hf⟩ := bcell hb; have hz : w.heap.size < w1.heap.size := by (have := hb.size; simp at this; omega))
    refine bodyPost_ret (v := .agg #[.int .i64 6, .int .i64 0, .int .i64 0, .string ⟨#[]⟩, .slice none 0 0]) ?_ rfl ⟨rfl, ?_⟩
    · simp [results, Tryz.results25, go_sem, hc]
    · (repeat' (first | (with_reducible exact Below.refl _ _) | (with_reducible assumption) | (with_reducible refine Below.setCell ?_ ?_ _) | (with_reducible refine Below.alloc ?_ ?_ _) | (with_reducible refine Below.drew ?_) | (with_reducible refine below_drewN ?_ _) | (with_reducible refine Below.trans ?_ (Below.mono (by assumption) ?_)) | (simp <;> omega) | omega))
  · rw [wholeV, if_neg h]
    go_enter Tryz.func25, Tryz.ntmps25
    go_wp2_with (go_at_call 38; refine (int_fits n (by omega) (by omega) _).mono ?_; rintro e w1 ⟨rfl, hb⟩; obtain ⟨hc, hf⟩ := bcell hb; have hz : w.heap.size < w1.heap.size := by (have := hb.size; simp at this; omega))
    refine bodyPost_ret (v := .agg #[.int .i64 1, .int .i64 n, .int .i64 1, .string ⟨#[]⟩, .slice none 0 0]) ?_ rfl ⟨rfl, ?_⟩
    · simp [results, Tryz.results25, go_sem, hc]
    · (repeat' (first | (with_reducible exact Below.refl _ _) | (with_reducible assumption) | (with_reducible refine Below.setCell ?_ ?_ _) | (with_reducible refine Below.alloc ?_ ?_ _) | (with_reducible refine Below.drew ?_) | (with_reducible refine below_drewN ?_ _) | (with_reducible refine Below.trans ?_ (Below.mono (by assumption) ?_)) | (simp <;> omega) | omega))
theorem empty_small : (⟨#[]⟩ : ByteArray).size ≤ 1000 := by decide
/-- A value without rows, as the laws make one: small. -/
def MadeV (v : V) : Prop := OkV v ∧ (v.k = 2 ∨ v.k = 4 ∨ v.k = 6 ∨ v.k = 0 ∨ v.k = 1 ∨ v.k = 3) ∧ v.t.size ≤ 1000
def RetMade (w : World) (e : Ending) (w' : World) : Prop := ∃ (k n d : Int) (t : ByteArray), MadeV ⟨k, n, d, t⟩ ∧ e = .returned (.agg #[.int .i64 k, .int .i64 n, .int .i64 d, .string t, .slice none 0 0]) ∧ Below w.heap.size w w'
theorem made_numb {k n d : Int} (h : Numb k n d) : MadeV ⟨k, n, d, ⟨#[]⟩⟩ := by
  rcases h with ⟨rfl, rfl, rfl⟩ | ⟨rfl, h1, h2, h3⟩
  · exact ⟨⟨by simp, by simp⟩, by simp, empty_small⟩
  · refine ⟨⟨by simp, fun _ => ⟨by simp only; omega, ?_⟩⟩, by simp, empty_small⟩
    rcases h3 with rfl | rfl | rfl | rfl | rfl
    · exact ⟨0, by omega, rfl⟩
    · exact ⟨1, by omega, rfl⟩
    · exact ⟨2, by omega, rfl⟩
    · exact ⟨3, by omega, rfl⟩
    · exact ⟨4, by omega, rfl⟩
theorem made_whole (n : Int) : MadeV (wholeV n) := by
  unfold wholeV
  split
  · exact ⟨⟨by simp, by simp⟩, by simp, empty_small⟩
  · exact ⟨⟨by simp, fun _ => ⟨by simp only; omega, 0, by omega, rfl⟩⟩, by simp, empty_small⟩
theorem made_bool (b : Bool) : MadeV ⟨3, b2i b, 0, ⟨#[]⟩⟩ := ⟨⟨by simp, by simp⟩, by simp, empty_small⟩
theorem made_text (t : ByteArray) (ht : t.size ≤ 1000) : MadeV ⟨2, 0, 0, t⟩ := ⟨⟨by simp, by simp⟩, by simp, ht⟩
theorem made_error (t : ByteArray) (ht : t.size ≤ 1000) : MadeV ⟨4, 0, 0, t⟩ := ⟨⟨by simp, by simp⟩, by simp, ht⟩
theorem made_empty : MadeV ⟨0, 0, 0, ⟨#[]⟩⟩ := ⟨⟨by simp, by simp⟩, by simp, empty_small⟩
set_option maxRecDepth 100000 in
set_option maxHeartbeats 2000000 in
theorem argMade_any (a n : Int) (t : ByteArray) (ha0 : 0 ≤ a) (ha1 : a ≤ 255) (hn1 : -9223372036854775808 ≤ n) (hn2 : n ≤ 9223372036854775807) (ht : t.size ≤ 1000) (w : World) :
    Calls Tryz.prog 12 #[.int .u8 a, .int .i64 n, .string t] w (RetMade w) := by
  have h6 : a % 6 = 0 ∨ a % 6 = 1 ∨ a % 6 = 2 ∨ a % 6 = 3 ∨ a % 6 = 4 ∨ a % 6 = 5 := by omega
  rcases h6 with h6 | h6 | h6 | h6 | h6 | h6
  · go_enter Tryz.func12, Tryz.ntmps12
    go_wp2_with fail
    refine bodyPost_ret (v := .agg #[.int .i64 0, .int .i64 0, .int .i64 0, .string ⟨#[]⟩, .slice none 0 0]) ?_ rfl ⟨0, 0, 0, ⟨#[]⟩, made_empty, rfl, ?_⟩
    · simp [results, Tryz.results12, go_sem]
    · (repeat' (first | (with_reducible exact Below.refl _ _) | (with_reducible assumption) | (with_reducible refine Below.setCell ?_ ?_ _) | (with_reducible refine Below.alloc ?_ ?_ _) | (with_reducible refine Below.drew ?_) | (with_reducible refine below_drewN ?_ _) | (with_reducible refine Below.trans ?_ (Below.mono (by assumption) ?_)) | (simp <;> omega) | omega))
  · have HW := hide (argWhole_any n)
    have HM := hide (made_whole n)
    obtain ⟨⟨vk, vn, vd, vt⟩, hv⟩ : ∃ v, wholeV n = v := ⟨_, rfl⟩
    rw [hv] at HW HM
    clear hv
    go_enter Tryz.func12, Tryz.ntmps12
    go_wp2_with (go_at_call 25; refine (HW.out _).mono ?_; rintro e w1 ⟨rfl, hb⟩; have hB : Below (w.heap.size + 1) (w.alloc (.cells #[.int .i64 0, .int .i64 0, .int .i64 0, .string ⟨#[]⟩, .slice none 0 0] 27)) w1 := (Below.alloc (Below.refl _ _) (by simp) _).trans (hb.mono (by simp)); obtain ⟨hc, hf, hz0⟩ := own_cells hB; have hbel : Below w.heap.size w w1 := (Below.alloc (Below.refl _ _) (Nat.le_refl _) _).trans (hB.mono (by omega)); clear hb hB)
    refine bodyPost_ret (v := .agg #[.int .i64 vk, .int .i64 vn, .int .i64 vd, .string vt, .slice none 0 0]) ?_ rfl ⟨vk, vn, vd, vt, HM.out, rfl, ?_⟩
    · simp [results, Tryz.results12, go_sem, hc]
    · (repeat' (first | (with_reducible exact Below.refl _ _) | (with_reducible assumption) | (with_reducible refine Below.setCell ?_ ?_ _) | (with_reducible refine Below.alloc ?_ ?_ _) | (with_reducible refine Below.drew ?_) | (with_reducible refine below_drewN ?_ _) | (with_reducible refine Below.trans ?_ (Below.mono (by assumption) ?_)) | (simp <;> omega) | omega))
  · go_enter Tryz.func12, Tryz.ntmps12
    go_wp2_with (go_at_call 11; refine (str_any t _).mono ?_; rintro e w1 ⟨rfl, hb⟩; have hB : Below (w.heap.size + 1) (w.alloc (.cells #[.int .i64 0, .int .i64 0, .int .i64 0, .string ⟨#[]⟩, .slice none 0 0] 27)) w1 := (Below.alloc (Below.refl _ _) (by simp) _).trans (hb.mono (by simp)); obtain ⟨hc, hf, hz0⟩ := own_cells hB; have hbel : Below w.heap.size w w1 := (Below.alloc (Below.refl _ _) (Nat.le_refl _) _).trans (hB.mono (by omega)); clear hb hB)
    refine bodyPost_ret (v := .agg #[.int .i64 2, .int .i64 0, .int .i64 0, .string t, .slice none 0 0]) ?_ rfl ⟨2, 0, 0, t, made_text t ht, rfl, ?_⟩
    · simp [results, Tryz.results12, go_sem, hc]
    · (repeat' (first | (with_reducible exact Below.refl _ _) | (with_reducible assumption) | (with_reducible refine Below.setCell ?_ ?_ _) | (with_reducible refine Below.alloc ?_ ?_ _) | (with_reducible refine Below.drew ?_) | (with_reducible refine below_drewN ?_ _) | (with_reducible refine Below.trans ?_ (Below.mono (by assumption) ?_)) | (simp <;> omega) | omega))
  · obtain ⟨z, hm⟩ : ∃ z, (n.tmod 2 != 0) = z := ⟨_, rfl⟩
    have HM := hide hm
    clear hm
    go_enter Tryz.func12, Tryz.ntmps12
    go_wp2_with (go_at_call 26; rw [HM.out]; refine (bool_any z _).mono ?_; rintro e w1 ⟨rfl, hb⟩; have hB : Below (w.heap.size + 1) (w.alloc (.cells #[.int .i64 0, .int .i64 0, .int .i64 0, .string ⟨#[]⟩, .slice none 0 0] 27)) w1 := (Below.alloc (Below.refl _ _) (by simp) _).trans (hb.mono (by simp)); obtain ⟨hc, hf, hz0⟩ := own_cells hB; have hbel : Below w.heap.size w w1 := (Below.alloc (Below.refl _ _) (Nat.le_refl _) _).trans (hB.mono (by omega)); clear hb hB)
    refine bodyPost_ret (v := .agg #[.int .i64 3, .int .i64 (b2i z), .int .i64 0, .string ⟨#[]⟩, .slice none 0 0]) ?_ rfl ⟨3, b2i z, 0, ⟨#[]⟩, made_bool z, rfl, ?_⟩
    · simp [results, Tryz.results12, go_sem, hc]
    · (repeat' (first | (with_reducible exact Below.refl _ _) | (with_reducible assumption) | (with_reducible refine Below.setCell ?_ ?_ _) | (with_reducible refine Below.alloc ?_ ?_ _) | (with_reducible refine Below.drew ?_) | (with_reducible refine below_drewN ?_ _) | (with_reducible refine Below.trans ?_ (Below.mono (by assumption) ?_)) | (simp <;> omega) | omega))
  · have h0 : 0 ≤ IntKind.u64.wrap n := by
      simp [IntKind.wrap, IntKind.signed, IntKind.bits]
      omega
    have h7 : (IntKind.u64.wrap n).tmod 7 = 0 ∨ (IntKind.u64.wrap n).tmod 7 = 1 ∨ (IntKind.u64.wrap n).tmod 7 = 2 ∨ (IntKind.u64.wrap n).tmod 7 = 3 ∨ (IntKind.u64.wrap n).tmod 7 = 4 ∨ (IntKind.u64.wrap n).tmod 7 = 5 ∨ (IntKind.u64.wrap n).tmod 7 = 6 := by
      rw [Int.tmod_eq_emod_of_nonneg h0]
      omega
    rcases h7 with h7 | h7 | h7 | h7 | h7 | h7 | h7
    · go_enter Tryz.func12, Tryz.ntmps12
      go_wp2_with (go_at_call 27; refine (err_any _ _).mono ?_; rintro e w1 ⟨rfl, hb⟩; have hB : Below (w.heap.size + 1) (w.alloc (.cells #[.int .i64 0, .int .i64 0, .int .i64 0, .string ⟨#[]⟩, .slice none 0 0] 27)) w1 := (Below.alloc (Below.refl _ _) (by simp) _).trans (hb.mono (by simp)); obtain ⟨hc, hf, hz0⟩ := own_cells hB; have hbel : Below w.heap.size w w1 := (Below.alloc (Below.refl _ _) (Nat.le_refl _) _).trans (hB.mono (by omega)); clear hb hB)
      refine bodyPost_ret (v := .agg #[.int .i64 4, .int .i64 0, .int .i64 0, .string ⟨#[35, 78, 85, 76, 76, 33]⟩, .slice none 0 0]) ?_ rfl ⟨4, 0, 0, ⟨#[35, 78, 85, 76, 76, 33]⟩, made_error _ (by decide), rfl, ?_⟩
      · simp [results, Tryz.results12, go_sem, hc]
      · (repeat' (first | (with_reducible exact Below.refl _ _) | (with_reducible assumption) | (with_reducible refine Below.setCell ?_ ?_ _) | (with_reducible refine Below.alloc ?_ ?_ _) | (with_reducible refine Below.drew ?_) | (with_reducible refine below_drewN ?_ _) | (with_reducible refine Below.trans ?_ (Below.mono (by assumption) ?_)) | (simp <;> omega) | omega))
    · go_enter Tryz.func12, Tryz.ntmps12
      go_wp2_with (go_at_call 27; refine (err_any _ _).mono ?_; rintro e w1 ⟨rfl, hb⟩; have hB : Below (w.heap.size + 1) (w.alloc (.cells #[.int .i64 0, .int .i64 0, .int .i64 0, .string ⟨#[]⟩, .slice none 0 0] 27)) w1 := (Below.alloc (Below.refl _ _) (by simp) _).trans (hb.mono (by simp)); obtain ⟨hc, hf, hz0⟩ := own_cells hB; have hbel : Below w.heap.size w w1 := (Below.alloc (Below.refl _ _) (Nat.le_refl _) _).trans (hB.mono (by omega)); clear hb hB)
      refine bodyPost_ret (v := .agg #[.int .i64 4, .int .i64 0, .int .i64 0, .string ⟨#[35, 68, 73, 86, 47, 48, 33]⟩, .slice none 0 0]) ?_ rfl ⟨4, 0, 0, ⟨#[35, 68, 73, 86, 47, 48, 33]⟩, made_error _ (by decide), rfl, ?_⟩
      · simp [results, Tryz.results12, go_sem, hc]
      · (repeat' (first | (with_reducible exact Below.refl _ _) | (with_reducible assumption) | (with_reducible refine Below.setCell ?_ ?_ _) | (with_reducible refine Below.alloc ?_ ?_ _) | (with_reducible refine Below.drew ?_) | (with_reducible refine below_drewN ?_ _) | (with_reducible refine Below.trans ?_ (Below.mono (by assumption) ?_)) | (simp <;> omega) | omega))
    · go_enter Tryz.func12, Tryz.ntmps12
      go_wp2_with (go_at_call 27; refine (err_any _ _).mono ?_; rintro e w1 ⟨rfl, hb⟩; have hB : Below (w.heap.size + 1) (w.alloc (.cells #[.int .i64 0, .int .i64 0, .int .i64 0, .string ⟨#[]⟩, .slice none 0 0] 27)) w1 := (Below.alloc (Below.refl _ _) (by simp) _).trans (hb.mono (by simp)); obtain ⟨hc, hf, hz0⟩ := own_cells hB; have hbel : Below w.heap.size w w1 := (Below.alloc (Below.refl _ _) (Nat.le_refl _) _).trans (hB.mono (by omega)); clear hb hB)
      refine bodyPost_ret (v := .agg #[.int .i64 4, .int .i64 0, .int .i64 0, .string ⟨#[35, 86, 65, 76, 85, 69, 33]⟩, .slice none 0 0]) ?_ rfl ⟨4, 0, 0, ⟨#[35, 86, 65, 76, 85, 69, 33]⟩, made_error _ (by decide), rfl, ?_⟩
      · simp [results, Tryz.results12, go_sem, hc]
      · (repeat' (first | (with_reducible exact Below.refl _ _) | (with_reducible assumption) | (with_reducible refine Below.setCell ?_ ?_ _) | (with_reducible refine Below.alloc ?_ ?_ _) | (with_reducible refine Below.drew ?_) | (with_reducible refine below_drewN ?_ _) | (with_reducible refine Below.trans ?_ (Below.mono (by assumption) ?_)) | (simp <;> omega) | omega))
    · go_enter Tryz.func12, Tryz.ntmps12
      go_wp2_with (go_at_call 27; refine (err_any _ _).mono ?_; rintro e w1 ⟨rfl, hb⟩; have hB : Below (w.heap.size + 1) (w.alloc (.cells #[.int .i64 0, .int .i64 0, .int .i64 0, .string ⟨#[]⟩, .slice none 0 0] 27)) w1 := (Below.alloc (Below.refl _ _) (by simp) _).trans (hb.mono (by simp)); obtain ⟨hc, hf, hz0⟩ := own_cells hB; have hbel : Below w.heap.size w w1 := (Below.alloc (Below.refl _ _) (Nat.le_refl _) _).trans (hB.mono (by omega)); clear hb hB)
      refine bodyPost_ret (v := .agg #[.int .i64 4, .int .i64 0, .int .i64 0, .string ⟨#[35, 82, 69, 70, 33]⟩, .slice none 0 0]) ?_ rfl ⟨4, 0, 0, ⟨#[35, 82, 69, 70, 33]⟩, made_error _ (by decide), rfl, ?_⟩
      · simp [results, Tryz.results12, go_sem, hc]
      · (repeat' (first | (with_reducible exact Below.refl _ _) | (with_reducible assumption) | (with_reducible refine Below.setCell ?_ ?_ _) | (with_reducible refine Below.alloc ?_ ?_ _) | (with_reducible refine Below.drew ?_) | (with_reducible refine below_drewN ?_ _) | (with_reducible refine Below.trans ?_ (Below.mono (by assumption) ?_)) | (simp <;> omega) | omega))
    · go_enter Tryz.func12, Tryz.ntmps12
      go_wp2_with (go_at_call 27; refine (err_any _ _).mono ?_; rintro e w1 ⟨rfl, hb⟩; have hB : Below (w.heap.size + 1) (w.alloc (.cells #[.int .i64 0, .int .i64 0, .int .i64 0, .string ⟨#[]⟩, .slice none 0 0] 27)) w1 := (Below.alloc (Below.refl _ _) (by simp) _).trans (hb.mono (by simp)); obtain ⟨hc, hf, hz0⟩ := own_cells hB; have hbel : Below w.heap.size w w1 := (Below.alloc (Below.refl _ _) (Nat.le_refl _) _).trans (hB.mono (by omega)); clear hb hB)
      refine bodyPost_ret (v := .agg #[.int .i64 4, .int .i64 0, .int .i64 0, .string ⟨#[35, 78, 65, 77, 69, 63]⟩, .slice none 0 0]) ?_ rfl ⟨4, 0, 0, ⟨#[35, 78, 65, 77, 69, 63]⟩, made_error _ (by decide), rfl, ?_⟩
      · simp [results, Tryz.results12, go_sem, hc]
      · (repeat' (first | (with_reducible exact Below.refl _ _) | (with_reducible assumption) | (with_reducible refine Below.setCell ?_ ?_ _) | (with_reducible refine Below.alloc ?_ ?_ _) | (with_reducible refine Below.drew ?_) | (with_reducible refine below_drewN ?_ _) | (with_reducible refine Below.trans ?_ (Below.mono (by assumption) ?_)) | (simp <;> omega) | omega))
    · go_enter Tryz.func12, Tryz.ntmps12
      go_wp2_with (go_at_call 27; refine (err_any _ _).mono ?_; rintro e w1 ⟨rfl, hb⟩; have hB : Below (w.heap.size + 1) (w.alloc (.cells #[.int .i64 0, .int .i64 0, .int .i64 0, .string ⟨#[]⟩, .slice none 0 0] 27)) w1 := (Below.alloc (Below.refl _ _) (by simp) _).trans (hb.mono (by simp)); obtain ⟨hc, hf, hz0⟩ := own_cells hB; have hbel : Below w.heap.size w w1 := (Below.alloc (Below.refl _ _) (Nat.le_refl _) _).trans (hB.mono (by omega)); clear hb hB)
      refine bodyPost_ret (v := .agg #[.int .i64 4, .int .i64 0, .int .i64 0, .string ⟨#[35, 78, 85, 77, 33]⟩, .slice none 0 0]) ?_ rfl ⟨4, 0, 0, ⟨#[35, 78, 85, 77, 33]⟩, made_error _ (by decide), rfl, ?_⟩
      · simp [results, Tryz.results12, go_sem, hc]
      · (repeat' (first | (with_reducible exact Below.refl _ _) | (with_reducible assumption) | (with_reducible refine Below.setCell ?_ ?_ _) | (with_reducible refine Below.alloc ?_ ?_ _) | (with_reducible refine Below.drew ?_) | (with_reducible refine below_drewN ?_ _) | (with_reducible refine Below.trans ?_ (Below.mono (by assumption) ?_)) | (simp <;> omega) | omega))
    · go_enter Tryz.func12, Tryz.ntmps12
      go_wp2_with (go_at_call 27; refine (err_any _ _).mono ?_; rintro e w1 ⟨rfl, hb⟩; have hB : Below (w.heap.size + 1) (w.alloc (.cells #[.int .i64 0, .int .i64 0, .int .i64 0, .string ⟨#[]⟩, .slice none 0 0] 27)) w1 := (Below.alloc (Below.refl _ _) (by simp) _).trans (hb.mono (by simp)); obtain ⟨hc, hf, hz0⟩ := own_cells hB; have hbel : Below w.heap.size w w1 := (Below.alloc (Below.refl _ _) (Nat.le_refl _) _).trans (hB.mono (by omega)); clear hb hB)
      refine bodyPost_ret (v := .agg #[.int .i64 4, .int .i64 0, .int .i64 0, .string ⟨#[35, 78, 47, 65]⟩, .slice none 0 0]) ?_ rfl ⟨4, 0, 0, ⟨#[35, 78, 47, 65]⟩, made_error _ (by decide), rfl, ?_⟩
      · simp [results, Tryz.results12, go_sem, hc]
      · (repeat' (first | (with_reducible exact Below.refl _ _) | (with_reducible assumption) | (with_reducible refine Below.setCell ?_ ?_ _) | (with_reducible refine Below.alloc ?_ ?_ _) | (with_reducible refine Below.drew ?_) | (with_reducible refine below_drewN ?_ _) | (with_reducible refine Below.trans ?_ (Below.mono (by assumption) ?_)) | (simp <;> omega) | omega))
  · go_enter Tryz.func12, Tryz.ntmps12
    go_wp2_with (go_at_call 28; refine (argPart_any n hn2 hn1 _).mono ?_; rintro e w1 ⟨k, n1, d1, hN, rfl, hb⟩; have hB : Below (w.heap.size + 1) (w.alloc (.cells #[.int .i64 0, .int .i64 0, .int .i64 0, .string ⟨#[]⟩, .slice none 0 0] 27)) w1 := (Below.alloc (Below.refl _ _) (by simp) _).trans (hb.mono (by simp)); obtain ⟨hc, hf, hz0⟩ := own_cells hB; have hbel : Below w.heap.size w w1 := (Below.alloc (Below.refl _ _) (Nat.le_refl _) _).trans (hB.mono (by omega)); clear hb hB)
    refine bodyPost_ret (v := .agg #[.int .i64 k, .int .i64 n1, .int .i64 d1, .string ⟨#[]⟩, .slice none 0 0]) ?_ rfl ⟨k, n1, d1, ⟨#[]⟩, made_numb hN, rfl, ?_⟩
    · simp [results, Tryz.results12, go_sem, hc]
    · (repeat' (first | (with_reducible exact Below.refl _ _) | (with_reducible assumption) | (with_reducible refine Below.setCell ?_ ?_ _) | (with_reducible refine Below.alloc ?_ ?_ _) | (with_reducible refine Below.drew ?_) | (with_reducible refine below_drewN ?_ _) | (with_reducible refine Below.trans ?_ (Below.mono (by assumption) ?_)) | (simp <;> omega) | omega))
end Go.Proofs.YtemeamckdfnlfaaGreatDoor
