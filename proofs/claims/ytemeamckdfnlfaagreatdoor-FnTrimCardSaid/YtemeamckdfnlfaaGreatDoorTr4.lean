/- Contracts for the name TRIM, the reference's side: spec.Fits, spec.CallText, spec.CallOver, spec.Call. -/
import Derived.Test.YtemeamckdfnlfaaGreatDoorTr3
namespace Go.Proofs.YtemeamckdfnlfaaGreatDoor
open Go Go.RowKit
/-- The reference's answer: nothing is said, or this value. -/
def RetSure (want : V) (w : World) (e : Ending) (w' : World) : Prop := ∃ (k n d : Int) (t : ByteArray), (k = 6 ∨ V.mk k n d t = want) ∧ e = .returned (.agg #[.int .i64 k, .int .i64 n, .int .i64 d, .string t, .slice none 0 0]) ∧ Below w.heap.size w w'
def wantTrim (t : ByteArray) : V := if asciiB t then ⟨2, 0, 0, trimB t⟩ else ⟨6, 0, 0, ⟨#[]⟩⟩
set_option maxRecDepth 100000 in
set_option maxHeartbeats 2000000 in
theorem ofText_TRIM (t : ByteArray) (ht : t.size ≤ 1000) (A : Option Addr) (c : Nat) (w : World) (hr : Rd w w.heap.size 5 A 1 (cellsV [⟨2, 0, 0, t⟩])) :
    Calls Tryz.prog 112 #[.string ⟨#[84, 82, 73, 77]⟩, .slice A 1 c] w (RetSure (wantTrim t) w) := by
  have HR := hide hr
  have HT := hide (trimmed_any t ht)
  obtain ⟨x, hx⟩ : ∃ x, trimB t = x := ⟨_, rfl⟩
  have HX : Hid (asciiB t = true → V.mk 2 0 0 x = wantTrim t) := hide fun h => by unfold wantTrim; rw [if_pos h, hx]
  unfold trimB at hx
  rw [hx] at HT
  clear hr hx
  go_enter Tryz.func112, Tryz.ntmps112
  go_wp2_with fail
  refine (texts_one t ht A c _ ((HR.out.alloc (Nat.le_refl _) _).more (by simp))).mono ?_
  rintro e w1 ⟨hb1, he⟩
  have hB : Below (w.heap.size + 1) (w.alloc (.cells #[.int .i64 0, .int .i64 0, .int .i64 0, .string ⟨#[]⟩, .slice none 0 0] 27)) w1 := hb1.mono (by simp)
  obtain ⟨hc1, hf1, hz1⟩ := own_cells hB
  have hB1 := hide hB
  have hbel : Below w.heap.size w w1 := (Below.alloc (Below.refl _ _) (Nat.le_refl _) _).trans (hB.mono (by omega))
  clear hb1 hB
  rcases he with ⟨ha, g, c', rfl, hg, hcell⟩ | ⟨ha, m, d, s, rfl⟩
  · have HAs := hide ha
    clear ha
    go_wp2_with (first
      | (go_at_call 209; refine (HT.out _).mono ?_; rintro e w2 ⟨rfl, hb2⟩; have hz2 := hb2.size)
      | (go_at_call 11; refine (str_any _ _).mono ?_; rintro e w3 ⟨rfl, hb3⟩; have hB3 : Below (w.heap.size + 1) (w.alloc (.cells #[.int .i64 0, .int .i64 0, .int .i64 0, .string ⟨#[]⟩, .slice none 0 0] 27)) w3 := ((hB1.out.alloc (by omega) _).trans (hb2.mono (by simp; omega))).trans (hb3.mono (by simp at hz2; omega)); obtain ⟨hc3, hf3, hz3⟩ := own_cells hB3; have hbel3 : Below w.heap.size w w3 := (Below.alloc (Below.refl _ _) (Nat.le_refl _) _).trans (hB3.mono (by omega)); clear hb2 hb3 hB3))
    refine bodyPost_ret (v := .agg #[.int .i64 2, .int .i64 0, .int .i64 0, .string x, .slice none 0 0]) ?_ rfl ⟨2, 0, 0, x, .inr (HX.out HAs.out), rfl, ?_⟩
    · simp [results, Tryz.results112, go_sem, hc3]
    · (repeat' (first | (with_reducible exact Below.refl _ _) | (with_reducible assumption) | (with_reducible refine Below.setCell ?_ ?_ _) | (with_reducible refine Below.alloc ?_ ?_ _) | (with_reducible refine Below.drew ?_) | (with_reducible refine below_drewN ?_ _) | (with_reducible refine Below.trans ?_ (Below.mono (by assumption) ?_)) | (simp <;> omega) | omega))
  · clear ha
    go_wp2_with fail
    refine bodyPost_ret (v := .agg #[.int .i64 6, .int .i64 m, .int .i64 d, .string s, .slice none 0 0]) ?_ rfl ⟨6, m, d, s, .inl rfl, rfl, ?_⟩
    · simp [results, Tryz.results112, go_sem, hc1, hz1]
    · (repeat' (first | (with_reducible exact Below.refl _ _) | (with_reducible assumption) | (with_reducible refine Below.setCell ?_ ?_ _) | (with_reducible refine Below.alloc ?_ ?_ _) | (with_reducible refine Below.drew ?_) | (with_reducible refine below_drewN ?_ _) | (with_reducible refine Below.trans ?_ (Below.mono (by assumption) ?_)) | (simp <;> omega) | omega))
theorem short_text (m d : Int) (t : ByteArray) (w : World) : Calls Tryz.prog 182 #[.agg #[.int .i64 2, .int .i64 m, .int .i64 d, .string t, .slice none 0 0]] w (SomeBool w) := by
  go_enter Tryz.func182, Tryz.ntmps182
  go_wp2_with (go_at_call 168; refine (isWhole_any _ _ _ _ _).mono ?_; rintro e w1 ⟨rfl, hb1⟩)
  all_goals
    go_ret
    exact ⟨_, rfl, by (repeat' (first | (with_reducible exact Below.refl _ _) | (with_reducible assumption) | (with_reducible refine Below.setCell ?_ ?_ _) | (with_reducible refine Below.alloc ?_ ?_ _) | (with_reducible refine Below.drew ?_) | (with_reducible refine below_drewN ?_ _) | (with_reducible refine Below.trans ?_ (Below.mono (by assumption) ?_)) | (simp <;> omega) | omega))⟩
theorem textual_text (m d : Int) (t : ByteArray) (ht : t.size ≤ 1000) (w : World) : Calls Tryz.prog 147 #[.agg #[.int .i64 2, .int .i64 m, .int .i64 d, .string t, .slice none 0 0]] w (SomeBool w) := by
  obtain ⟨b, hb⟩ : ∃ b, asciiB t = b := ⟨_, rfl⟩
  have HB := hide hb
  clear hb
  cases b
  all_goals
    go_enter Tryz.func147, Tryz.ntmps147
    go_wp2_with (first
      | (go_at_call 150; refine (ascii_any _ ht _).mono ?_; rintro e w1 ⟨rfl, rfl⟩; rw [HB.out])
      | (go_at_call 182; refine (short_text _ _ _ _).mono ?_; rintro e w2 ⟨b2, rfl, hb2⟩))
    all_goals
      go_ret
      exact ⟨_, rfl, by (repeat' (first | (with_reducible exact Below.refl _ _) | (with_reducible assumption) | (with_reducible refine Below.setCell ?_ ?_ _) | (with_reducible refine Below.alloc ?_ ?_ _) | (with_reducible refine Below.drew ?_) | (with_reducible refine below_drewN ?_ _) | (with_reducible refine Below.trans ?_ (Below.mono (by assumption) ?_)) | (simp <;> omega) | omega))⟩
set_option maxRecDepth 100000 in
set_option maxHeartbeats 2000000 in
theorem fitsNumbers_TRIM (vs : List V) (A : Option Addr) (n c : Nat) (w : World) (hr : Rd w w.heap.size 5 A n (cellsV vs)) (hs : Short vs) (hn : n ≤ 1000) :
    Calls Tryz.prog 66 #[.string ⟨#[84, 82, 73, 77]⟩, .slice A n c] w fun e w' => e = .returned (.tuple #[.bool false, .bool false]) ∧ Below w.heap.size w w' := by
  have HE := hide (every_numeric vs A n c w hr hs hn)
  clear hr hs
  go_enter Tryz.func66, Tryz.ntmps66
  go_wp2_with (go_at_call 142; refine HE.out.mono ?_; rintro e w1 ⟨b, rfl, hb1⟩)
  go_ret2
  exact ⟨rfl, hb1⟩
set_option maxRecDepth 100000 in
set_option maxHeartbeats 2000000 in
theorem fitsTexts_TRIM (m d : Int) (t : ByteArray) (ht : t.size ≤ 1000) (A : Option Addr) (c : Nat) (w : World) (hr : Rd w w.heap.size 5 A 1 (cellsV [⟨2, m, d, t⟩])) :
    Calls Tryz.prog 67 #[.string ⟨#[84, 82, 73, 77]⟩, .slice A 1 c] w (SomeTell true w) := by
  obtain ⟨g, rfl, hg, h0, h1, h2, h3, h4⟩ := rdV1 hr
  clear hr
  go_enter Tryz.func67, Tryz.ntmps67
  go_wp2_with (go_at_call 147; refine (textual_text _ _ _ ht _).mono ?_; rintro e w1 ⟨b, rfl, hb1⟩)
  all_goals (go_ret2; exact ⟨_, rfl, by (repeat' (first | (with_reducible exact Below.refl _ _) | (with_reducible assumption) | (with_reducible refine Below.setCell ?_ ?_ _) | (with_reducible refine Below.alloc ?_ ?_ _) | (with_reducible refine Below.drew ?_) | (with_reducible refine below_drewN ?_ _) | (with_reducible refine Below.trans ?_ (Below.mono (by assumption) ?_)) | (simp <;> omega) | omega))⟩)
theorem fits_TRIM (m d : Int) (t : ByteArray) (ht : t.size ≤ 1000) (A : Option Addr) (c : Nat) (w : World) (hr : Rd w w.heap.size 5 A 1 (cellsV [⟨2, m, d, t⟩])) :
    Calls Tryz.prog 42 #[.string ⟨#[84, 82, 73, 77]⟩, .slice A 1 c] w (SomeBool w) := by
  have HR := hide hr
  have H1 := hide (fitsNumbers_TRIM [⟨2, m, d, t⟩] A 1 c w hr (by intro v hv; simp at hv; subst hv; exact ht) (by omega))
  clear hr
  go_enter Tryz.func42, Tryz.ntmps42
  go_wp2_with fail
  refine H1.out.mono ?_
  rintro e w1 ⟨rfl, hb1⟩
  go_wp2_with fail
  refine (fitsTexts_TRIM m d t ht A c _ ((HR.out.below hb1).more hb1.size)).mono ?_
  rintro e w2 ⟨b, rfl, hb2⟩
  have hz := hb1.size
  go_wp2_with fail
  go_ret
  exact ⟨_, rfl, by (repeat' (first | (with_reducible exact Below.refl _ _) | (with_reducible assumption) | (with_reducible refine Below.setCell ?_ ?_ _) | (with_reducible refine Below.alloc ?_ ?_ _) | (with_reducible refine Below.drew ?_) | (with_reducible refine below_drewN ?_ _) | (with_reducible refine Below.trans ?_ (Below.mono (by assumption) ?_)) | (simp <;> omega) | omega))⟩
set_option maxRecDepth 100000 in
set_option maxHeartbeats 2000000 in
theorem callText_TRIM (x : ByteArray) (hx : x.size ≤ 1000) (A : Option Addr) (c : Nat) (w : World) (hr : Rd w w.heap.size 5 A 1 (cellsV [⟨2, 0, 0, x⟩])) :
    Calls Tryz.prog 48 #[.string ⟨#[84, 82, 73, 77]⟩, .slice A 1 c] w fun e w' => ∃ (k n d : Int) (t : ByteArray), (k = 6 ∨ V.mk k n d t = wantTrim x) ∧ e = .returned (.tuple #[.agg #[.int .i64 k, .int .i64 n, .int .i64 d, .string t, .slice none 0 0], .bool true]) ∧ Below w.heap.size w w' := by
  have HR := hide hr
  clear hr
  go_enter Tryz.func48, Tryz.ntmps48
  go_wp2_with fail
  refine (ofText_TRIM x hx A c _ ?_).mono ?_
  · exact (HR.out.alloc (Nat.le_refl _) _).more (by simp)
  rintro e w1 ⟨k, n, d, t, hv, rfl, hb⟩
  obtain ⟨hc, hf⟩ := bcell hb
  have hz : w.heap.size < w1.heap.size := by (have := hb.size; simp at this; omega)
  have HV := hide hv
  clear hv
  go_wp2_with fail
  refine bodyPost_ret (v := .tuple #[.agg #[.int .i64 k, .int .i64 n, .int .i64 d, .string t, .slice none 0 0], .bool true]) ?_ rfl ⟨k, n, d, t, HV.out, rfl, ?_⟩
  · simp [results, Tryz.results48, go_sem, hc]
  · (repeat' (first | (with_reducible exact Below.refl _ _) | (with_reducible assumption) | (with_reducible refine Below.setCell ?_ ?_ _) | (with_reducible refine Below.alloc ?_ ?_ _) | (with_reducible refine Below.drew ?_) | (with_reducible refine below_drewN ?_ _) | (with_reducible refine Below.trans ?_ (Below.mono (by assumption) ?_)) | (simp <;> omega) | omega))

set_option maxRecDepth 100000 in
set_option maxHeartbeats 2000000 in
theorem callOver_TRIM (x : ByteArray) (hx : x.size ≤ 1000) (A : Option Addr) (c : Nat) (w : World) (hr : Rd w w.heap.size 5 A 1 (cellsV [⟨2, 0, 0, x⟩])) :
    Calls Tryz.prog 31 #[.string ⟨#[84, 82, 73, 77]⟩, .slice A 1 c, .slice A 1 c] w (RetSure (wantTrim x) w) := by
  have HR := hide hr
  clear hr
  go_enter Tryz.func31, Tryz.ntmps31
  go_wp2_with fail
  refine (fits_TRIM 0 0 x hx A c _ ((HR.out.alloc (Nat.le_refl _) _).more (by simp))).mono ?_
  rintro e w1 ⟨b, rfl, hb1⟩
  obtain ⟨hc1, hf1⟩ := bcell hb1
  have hz1 : w.heap.size < w1.heap.size := by (have := hb1.size; simp at this; omega)
  cases b
  · go_wp2_with (go_at_call 43; refine (doubt_any _).mono ?_; rintro e w4 ⟨rfl, hb4⟩; obtain ⟨hc4, hf4⟩ := bcell hb4; have hz4 : w.heap.size < w4.heap.size := by (have := hb4.size; omega))
    refine bodyPost_ret (v := .agg #[.int .i64 6, .int .i64 0, .int .i64 0, .string ⟨#[]⟩, .slice none 0 0]) ?_ rfl ⟨6, 0, 0, ⟨#[]⟩, .inl rfl, rfl, ?_⟩
    · simp [results, Tryz.results31, go_sem, *]
    · (repeat' (first | (with_reducible exact Below.refl _ _) | (with_reducible assumption) | (with_reducible refine Below.setCell ?_ ?_ _) | (with_reducible refine Below.alloc ?_ ?_ _) | (with_reducible refine Below.drew ?_) | (with_reducible refine below_drewN ?_ _) | (with_reducible refine Below.trans ?_ (Below.mono (by assumption) ?_)) | (simp <;> omega) | omega))
  · go_wp2_with (first
      | (go_at_call 44; refine (Stat_TRIM _ _).mono ?_; rintro e w2 ⟨rfl, hb2⟩; obtain ⟨hc2, hf2⟩ := bcell hb2; have hz2 : w.heap.size < w2.heap.size := by (have := hb2.size; first | omega | (simp at this; omega)))
      | (go_at_call 45; refine (Criteria_TRIM _ _).mono ?_; rintro e w3 ⟨rfl, hb3⟩; obtain ⟨hc3, hf3⟩ := bcell hb3; have hz3 : w.heap.size < w3.heap.size := by (have := hb3.size; first | omega | (simp at this; omega)))
      | (go_at_call 46; refine (Lookup_TRIM _ _).mono ?_; rintro e w4 ⟨rfl, hb4⟩; obtain ⟨hc4, hf4⟩ := bcell hb4; have hz4 : w.heap.size < w4.heap.size := by (have := hb4.size; first | omega | (simp at this; omega)))
      | (go_at_call 47; refine (CallMath_TRIM _ _).mono ?_; rintro e w5 ⟨rfl, hb5⟩; obtain ⟨hc5, hf5⟩ := bcell hb5; have hz5 : w.heap.size < w5.heap.size := by (have := hb5.size; first | omega | (simp at this; omega))))
    clear hc1 hf1 hc2 hf2 hc3 hf3 hc4 hf4 hc5 hf5
    have hbelow : Below (w.heap.size + 1) (w.alloc (.cells #[.int .i64 0, .int .i64 0, .int .i64 0, .string ⟨#[]⟩, .slice none 0 0] 27)) w5 := by (repeat' (first | (with_reducible exact Below.refl _ _) | (with_reducible assumption) | (with_reducible refine Below.setCell ?_ ?_ _) | (with_reducible refine Below.alloc ?_ ?_ _) | (with_reducible refine Below.drew ?_) | (with_reducible refine below_drewN ?_ _) | (with_reducible refine Below.trans ?_ (Below.mono (by assumption) ?_)) | (simp <;> omega) | omega))
    have hbel0 : Below w.heap.size w w5 := (Below.alloc (Below.refl _ _) (Nat.le_refl _) _).trans (hbelow.mono (by omega))
    clear hb1 hb2 hb3 hb4 hb5 hz1 hz2 hz3 hz4
    refine (callText_TRIM x hx A c _ ?_).mono ?_
    · exact ((HR.out.below hbel0).alloc hbel0.size _).more (by simp; omega)
    rintro e w6 ⟨k, n, d, t, hv, rfl, hb6⟩
    have hbel6 : Below (w.heap.size + 1) (w.alloc (.cells #[.int .i64 0, .int .i64 0, .int .i64 0, .string ⟨#[]⟩, .slice none 0 0] 27)) w6 := by (repeat' (first | (with_reducible exact Below.refl _ _) | (with_reducible assumption) | (with_reducible refine Below.setCell ?_ ?_ _) | (with_reducible refine Below.alloc ?_ ?_ _) | (with_reducible refine Below.drew ?_) | (with_reducible refine below_drewN ?_ _) | (with_reducible refine Below.trans ?_ (Below.mono (by assumption) ?_)) | (simp <;> omega) | omega))
    obtain ⟨hc6, hf6, hz6⟩ := own_cells hbel6
    have hbel7 : Below w.heap.size w w6 := (Below.alloc (Below.refl _ _) (Nat.le_refl _) _).trans (hbel6.mono (by omega))
    clear hb6 hbel6 hbelow hbel0
    have HV := hide hv
    clear hv
    go_wp2_with fail
    refine bodyPost_ret (v := .agg #[.int .i64 k, .int .i64 n, .int .i64 d, .string t, .slice none 0 0]) ?_ rfl ⟨k, n, d, t, HV.out, rfl, ?_⟩
    · simp [results, Tryz.results31, go_sem, hc6, hz6]
    · (repeat' (first | (with_reducible exact Below.refl _ _) | (with_reducible assumption) | (with_reducible refine Below.setCell ?_ ?_ _) | (with_reducible refine Below.alloc ?_ ?_ _) | (with_reducible refine Below.drew ?_) | (with_reducible refine below_drewN ?_ _) | (with_reducible refine Below.trans ?_ (Below.mono (by assumption) ?_)) | (simp <;> omega) | omega))

theorem call_TRIM (x : ByteArray) (hx : x.size ≤ 1000) (A : Option Addr) (c : Nat) (w : World) (hr : Rd w w.heap.size 5 A 1 (cellsV [⟨2, 0, 0, x⟩])) :
    Calls Tryz.prog 17 #[.string ⟨#[84, 82, 73, 77]⟩, .slice A 1 c] w (RetSure (wantTrim x) w) := by
  have HR := hide hr
  clear hr
  go_enter Tryz.func17, Tryz.ntmps17
  go_wp2_with fail
  refine (callOver_TRIM x hx A c _ ((HR.out.alloc (Nat.le_refl _) _).more (by simp))).mono ?_
  rintro e w1 ⟨k, n, d, t, hv, rfl, hb1⟩
  obtain ⟨hc1, hf1⟩ := bcell hb1
  have hz1 : w.heap.size < w1.heap.size := by (have := hb1.size; simp at this; omega)
  have HV := hide hv
  clear hv
  go_wp2_with fail
  refine bodyPost_ret (v := .agg #[.int .i64 k, .int .i64 n, .int .i64 d, .string t, .slice none 0 0]) ?_ rfl ⟨k, n, d, t, HV.out, rfl, ?_⟩
  · simp [results, Tryz.results17, go_sem, *]
  · (repeat' (first | (with_reducible exact Below.refl _ _) | (with_reducible assumption) | (with_reducible refine Below.setCell ?_ ?_ _) | (with_reducible refine Below.alloc ?_ ?_ _) | (with_reducible refine Below.drew ?_) | (with_reducible refine below_drewN ?_ _) | (with_reducible refine Below.trans ?_ (Below.mono (by assumption) ?_)) | (simp <;> omega) | omega))
end Go.Proofs.YtemeamckdfnlfaaGreatDoor
