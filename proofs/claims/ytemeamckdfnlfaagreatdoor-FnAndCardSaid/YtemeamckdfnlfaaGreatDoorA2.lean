/- Contracts for the name AND: spec.First, spec.together, spec.CallLogic, spec.CallOver, spec.Call. -/
import Derived.Test.YtemeamckdfnlfaaGreatDoorA1
import Derived.Test.YtemeamckdfnlfaaGreatDoorFi
namespace Go.Proofs.YtemeamckdfnlfaaGreatDoor
open Go Go.RowKit
/-- How many numbers are not 0. -/
def cntV (vs : List V) : Nat := vs.countP fun v => v.n != 0
theorem cntV_snoc {vs : List V} {k : Nat} {v : V} (h : vs[k]? = some v) : cntV (vs.take (k + 1)) = cntV (vs.take k) + (if v.n = 0 then 0 else 1) := by
  rw [List.take_add_one, h]
  unfold cntV
  rw [List.countP_append]
  by_cases e : v.n = 0 <;> simp [e]
theorem cntV_le (vs : List V) : cntV vs ≤ vs.length := List.countP_le_length
/-- What AND says of truths and numbers. -/
def wantAnd (vs : List V) : V := if vs.length = 0 then ⟨6, 0, 0, ⟨#[]⟩⟩ else ⟨3, b2i (decide (cntV vs = vs.length)), 0, ⟨#[]⟩⟩
/-- The answer of the reference where it is sure of the arguments. -/
def RetAnd (vs : List V) (w : World) (e : Ending) (w' : World) : Prop := ∃ (k n d : Int) (t : ByteArray), (unsure vs = true ∨ V.mk k n d t = ⟨6, 0, 0, ⟨#[]⟩⟩ ∨ V.mk k n d t = wantAnd vs) ∧ e = .returned (.agg #[.int .i64 k, .int .i64 n, .int .i64 d, .string t, .slice none 0 0]) ∧ Below w.heap.size w w'
set_option maxRecDepth 100000 in
set_option maxHeartbeats 2000000 in
theorem together_AND (vs : List V) (hv : ∀ v ∈ vs, AndV v) (A : Option Addr) (n c : Nat) (hn : n ≤ 1000) (w : World) (hr : Rd w w.heap.size 5 A n (cellsV vs)) :
    Calls Tryz.prog 122 #[.string ⟨#[65, 78, 68]⟩, .slice A n c] w (RetAnd vs w) := by
  have HR := hide hr
  have HS := hide hv
  have hl : vs.length = n := by have := hr.1; rw [cellsV_length] at this; omega
  clear hr hv
  go_enter Tryz.func122, Tryz.ntmps122
  go_wp2_with fail
  refine (flat_any vs (AndV.plain HS.out) A n c hn _ ((HR.out.alloc (Nat.le_refl _) _).more (by simp))).mono ?_
  rintro e w1 ⟨A1, c1, rfl, hown, hb1⟩
  have HR1 := hide (Rd.of_own hown)
  obtain ⟨hc1, hf1⟩ := bcell hb1
  have hz1 : w.heap.size < w1.heap.size := by (have := hb1.size; simp at this; omega)
  clear hown
  go_wp2_with fail
  refine (first_any vs (fun v hv => by have := (HS.out v hv).1; omega) A1 n c1 hn _ HR1.out).mono ?_
  rintro e w2 ⟨k, m, d, t, b, hu, -, rfl, hb2⟩
  have hB : Below (w.heap.size + 1) (w.alloc (.cells #[.int .i64 0, .int .i64 0, .int .i64 0, .string ⟨#[]⟩, .slice none 0 0] 27)) w2 := (hb1.mono (by simp)).trans (hb2.mono (by omega))
  obtain ⟨hc2, hf2, hz2⟩ := own_cells hB
  have hbel : Below w.heap.size w w2 := (Below.alloc (Below.refl _ _) (Nat.le_refl _) _).trans (hB.mono (by omega))
  have HR2 := hide ((HR1.out.below hb2).more hb2.size)
  have HU := hide hu
  clear hb1 hb2 hB hc1 hf1 HR1 HR hu
  cases b
  · go_wp2_with fail
    go_loop [7, 8, 9] (fun tr al i => ∃ k : Nat, k ≤ n ∧ tr = .int .i64 (cntV (vs.take k)) ∧ al = .int .i64 k ∧ i = .int .i64 k) (fun _ _ i => n - (intOf i).toNat)
    case atStart => exact ⟨0, by omega, by simp [cntV], rfl, rfl⟩
    case round =>
      obtain ⟨k, hk, rfl, rfl, rfl⟩ := hrel
      have hcl : cntV (vs.take k) ≤ k := Nat.le_trans (cntV_le _) (by simp; omega)
      by_cases hlt : k < n
      · obtain ⟨g, kk, m, d, t, rfl, hg, hv, h0, h1, h2, h3, h4⟩ := rdV HR2.out k hlt
        have hkk := (HS.out _ (List.mem_of_getElem? hv)).1
        have h6 : kk ≠ 6 := fun e => by
          have := unsure_some hv e
          rw [HU.out] at this
          cases this
        have hkk' : kk = 3 ∨ kk = 1 := by simp only at hkk; omega
        have HC := hide (cntV_snoc hv)
        clear hv hkk h6
        rcases hkk' with rfl | rfl
        all_goals
          by_cases hm : m = 0
          · subst hm
            go_wp2_with fail
            go_round
            case rel => exact ⟨k + 1, by omega, by rw [HC.out]; simp, by go_num, by go_num⟩
            case measure => simp [intOf]; omega
          · go_wp2_with fail
            go_round
            case rel => exact ⟨k + 1, by omega, by rw [HC.out, if_neg hm]; go_num, by go_num, by go_num⟩
            case measure => simp [intOf]; omega
      · obtain rfl : k = n := by omega
        have e : vs.take k = vs := by rw [← hl]; exact List.take_length
        rw [e] at hcl ⊢
        by_cases h0 : k = 0
        · subst h0
          go_wp2_with (go_at_call 43; refine (doubt_any _).mono ?_; rintro e w4 ⟨rfl, hb4⟩; obtain ⟨hc4, hf4⟩ := bcell hb4; have hz4 : w.heap.size < w4.heap.size := Nat.lt_of_lt_of_le hz2 (Nat.le_trans (by simp) hb4.size); have hc5 : ∀ o, w4.cell? ⟨w.heap.size, o, none⟩ = (#[.int .i64 0, .int .i64 0, .int .i64 0, .string ⟨#[]⟩, .slice none 0 0] : Array Value)[o]? := fun o => (hb4.cell (p := ⟨w.heap.size, o, none⟩) (Nat.lt_of_lt_of_le hz2 (by simp))).trans ((World.cell?_alloc_lt _ _ _ hz2).trans (hc2 o)); clear hc4)
          refine bodyPost_ret (v := .agg #[.int .i64 6, .int .i64 0, .int .i64 0, .string ⟨#[]⟩, .slice none 0 0]) ?_ rfl ⟨6, 0, 0, ⟨#[]⟩, .inr (.inl rfl), rfl, ?_⟩
          · simp [results, Tryz.results122, go_sem, hc5]
          · (repeat' (first | (with_reducible exact Below.refl _ _) | (with_reducible assumption) | (with_reducible refine Below.setCell ?_ ?_ _) | (with_reducible refine Below.alloc ?_ ?_ _) | (with_reducible refine Below.drew ?_) | (with_reducible refine below_drewN ?_ _) | (with_reducible refine Below.trans ?_ (Below.mono (by assumption) ?_)) | (simp <;> omega) | omega))
        · have HW : ∀ b : Bool, b = decide (cntV vs = k) → V.mk 3 (b2i b) 0 ⟨#[]⟩ = wantAnd vs := by
            rintro b rfl
            unfold wantAnd
            rw [if_neg (by omega), hl]
          by_cases hE : cntV vs = k
          · have hE' : decide (cntV vs = k) = true := by simpa using hE
            go_wp2_with (go_at_call 26; refine (bool_any _ _).mono ?_; rintro e w4 ⟨rfl, hb4⟩; obtain ⟨hc4, hf4⟩ := bcell hb4; have hz4 : w.heap.size < w4.heap.size := Nat.lt_of_lt_of_le hz2 (Nat.le_trans (by simp) hb4.size); have hc5 : ∀ o, w4.cell? ⟨w.heap.size, o, none⟩ = (#[.int .i64 0, .int .i64 0, .int .i64 0, .string ⟨#[]⟩, .slice none 0 0] : Array Value)[o]? := fun o => (hb4.cell (p := ⟨w.heap.size, o, none⟩) (Nat.lt_of_lt_of_le hz2 (by simp))).trans ((World.cell?_alloc_lt _ _ _ hz2).trans (hc2 o)); clear hc4)
            refine bodyPost_ret (v := .agg #[.int .i64 3, .int .i64 (b2i true), .int .i64 0, .string ⟨#[]⟩, .slice none 0 0]) ?_ rfl ⟨3, b2i true, 0, ⟨#[]⟩, .inr (.inr (HW _ hE'.symm)), rfl, ?_⟩
            · simp [results, Tryz.results122, go_sem, hc5]
            · (repeat' (first | (with_reducible exact Below.refl _ _) | (with_reducible assumption) | (with_reducible refine Below.setCell ?_ ?_ _) | (with_reducible refine Below.alloc ?_ ?_ _) | (with_reducible refine Below.drew ?_) | (with_reducible refine below_drewN ?_ _) | (with_reducible refine Below.trans ?_ (Below.mono (by assumption) ?_)) | (simp <;> omega) | omega))
          · have hE' : decide (cntV vs = k) = false := by simpa using hE
            have hE2 : ((cntV vs : Int) == (k : Int)) = false := by simpa using (fun h : (cntV vs : Int) = (k : Int) => hE (by omega))
            go_wp2_with (go_at_call 26; refine (bool_any _ _).mono ?_; rintro e w4 ⟨rfl, hb4⟩; obtain ⟨hc4, hf4⟩ := bcell hb4; have hz4 : w.heap.size < w4.heap.size := Nat.lt_of_lt_of_le hz2 (Nat.le_trans (by simp) hb4.size); have hc5 : ∀ o, w4.cell? ⟨w.heap.size, o, none⟩ = (#[.int .i64 0, .int .i64 0, .int .i64 0, .string ⟨#[]⟩, .slice none 0 0] : Array Value)[o]? := fun o => (hb4.cell (p := ⟨w.heap.size, o, none⟩) (Nat.lt_of_lt_of_le hz2 (by simp))).trans ((World.cell?_alloc_lt _ _ _ hz2).trans (hc2 o)); clear hc4)
            refine bodyPost_ret (v := .agg #[.int .i64 3, .int .i64 (b2i false), .int .i64 0, .string ⟨#[]⟩, .slice none 0 0]) ?_ rfl ⟨3, b2i false, 0, ⟨#[]⟩, .inr (.inr (HW _ hE'.symm)), rfl, ?_⟩
            · simp [results, Tryz.results122, go_sem, hc5]
            · (repeat' (first | (with_reducible exact Below.refl _ _) | (with_reducible assumption) | (with_reducible refine Below.setCell ?_ ?_ _) | (with_reducible refine Below.alloc ?_ ?_ _) | (with_reducible refine Below.drew ?_) | (with_reducible refine below_drewN ?_ _) | (with_reducible refine Below.trans ?_ (Below.mono (by assumption) ?_)) | (simp <;> omega) | omega))
  · go_wp2_with fail
    refine bodyPost_ret (v := .agg #[.int .i64 k, .int .i64 m, .int .i64 d, .string t, .slice none 0 0]) ?_ rfl ⟨k, m, d, t, .inl HU.out, rfl, ?_⟩
    · simp [results, Tryz.results122, go_sem, hc2, hz2]
    · (repeat' (first | (with_reducible exact Below.refl _ _) | (with_reducible assumption) | (with_reducible refine Below.setCell ?_ ?_ _) | (with_reducible refine Below.alloc ?_ ?_ _) | (with_reducible refine Below.drew ?_) | (with_reducible refine below_drewN ?_ _) | (with_reducible refine Below.trans ?_ (Below.mono (by assumption) ?_)) | (simp <;> omega) | omega))

set_option maxRecDepth 100000 in
set_option maxHeartbeats 2000000 in
theorem callLogic_AND (vs : List V) (hv : ∀ v ∈ vs, AndV v) (A : Option Addr) (n c : Nat) (hn : n ≤ 1000) (w : World) (hr : Rd w w.heap.size 5 A n (cellsV vs)) :
    Calls Tryz.prog 49 #[.string ⟨#[65, 78, 68]⟩, .slice A n c] w fun e w' => ∃ (k n d : Int) (t : ByteArray), (unsure vs = true ∨ V.mk k n d t = ⟨6, 0, 0, ⟨#[]⟩⟩ ∨ V.mk k n d t = wantAnd vs) ∧ e = .returned (.tuple #[.agg #[.int .i64 k, .int .i64 n, .int .i64 d, .string t, .slice none 0 0], .bool true]) ∧ Below w.heap.size w w' := by
  have HR := hide hr
  clear hr
  go_enter Tryz.func49, Tryz.ntmps49
  go_wp2_with fail
  refine (together_AND vs hv A n c hn _ ?_).mono ?_
  · exact (HR.out.alloc (Nat.le_refl _) _).more (by simp)
  rintro e w1 ⟨k, n, d, t, hv, rfl, hb⟩
  obtain ⟨hc, hf⟩ := bcell hb
  have hz : w.heap.size < w1.heap.size := by (have := hb.size; simp at this; omega)
  have HV := hide hv
  clear hv
  go_wp2_with fail
  refine bodyPost_ret (v := .tuple #[.agg #[.int .i64 k, .int .i64 n, .int .i64 d, .string t, .slice none 0 0], .bool true]) ?_ rfl ⟨k, n, d, t, HV.out, rfl, ?_⟩
  · simp [results, Tryz.results49, go_sem, hc]
  · (repeat' (first | (with_reducible exact Below.refl _ _) | (with_reducible assumption) | (with_reducible refine Below.setCell ?_ ?_ _) | (with_reducible refine Below.alloc ?_ ?_ _) | (with_reducible refine Below.drew ?_) | (with_reducible refine below_drewN ?_ _) | (with_reducible refine Below.trans ?_ (Below.mono (by assumption) ?_)) | (simp <;> omega) | omega))

set_option maxRecDepth 100000 in
set_option maxHeartbeats 2000000 in
theorem callOver_AND (vs : List V) (hv : ∀ v ∈ vs, AndV v) (A : Option Addr) (n c : Nat) (hn : n ≤ 30) (w : World) (hr : Rd w w.heap.size 5 A n (cellsV vs)) :
    Calls Tryz.prog 31 #[.string ⟨#[65, 78, 68]⟩, .slice A n c, .slice A n c] w (RetAnd vs w) := by
  have HR := hide hr
  have HS := hide hv
  clear hr hv
  go_enter Tryz.func31, Tryz.ntmps31
  go_wp2_with fail
  refine (fits_AND vs HS.out A n c hn _ ((HR.out.alloc (Nat.le_refl _) _).more (by simp))).mono ?_
  rintro e w1 ⟨b, rfl, hb1⟩
  obtain ⟨hc1, hf1⟩ := bcell hb1
  have hz1 : w.heap.size < w1.heap.size := by (have := hb1.size; simp at this; omega)
  cases b
  · go_wp2_with (go_at_call 43; refine (doubt_any _).mono ?_; rintro e w4 ⟨rfl, hb4⟩; obtain ⟨hc4, hf4⟩ := bcell hb4; have hz4 : w.heap.size < w4.heap.size := by (have := hb4.size; omega))
    refine bodyPost_ret (v := .agg #[.int .i64 6, .int .i64 0, .int .i64 0, .string ⟨#[]⟩, .slice none 0 0]) ?_ rfl ⟨6, 0, 0, ⟨#[]⟩, .inr (.inl rfl), rfl, ?_⟩
    · simp [results, Tryz.results31, go_sem, *]
    · (repeat' (first | (with_reducible exact Below.refl _ _) | (with_reducible assumption) | (with_reducible refine Below.setCell ?_ ?_ _) | (with_reducible refine Below.alloc ?_ ?_ _) | (with_reducible refine Below.drew ?_) | (with_reducible refine below_drewN ?_ _) | (with_reducible refine Below.trans ?_ (Below.mono (by assumption) ?_)) | (simp <;> omega) | omega))
  · go_wp2_with (first
      | (go_at_call 44; refine (Stat_AND _ _).mono ?_; rintro e w2 ⟨rfl, hb2⟩; obtain ⟨hc2, hf2⟩ := bcell hb2; have hz2 : w.heap.size < w2.heap.size := by (have := hb2.size; first | omega | (simp at this; omega)))
      | (go_at_call 45; refine (Criteria_AND _ _).mono ?_; rintro e w3 ⟨rfl, hb3⟩; obtain ⟨hc3, hf3⟩ := bcell hb3; have hz3 : w.heap.size < w3.heap.size := by (have := hb3.size; first | omega | (simp at this; omega)))
      | (go_at_call 46; refine (Lookup_AND _ _).mono ?_; rintro e w4 ⟨rfl, hb4⟩; obtain ⟨hc4, hf4⟩ := bcell hb4; have hz4 : w.heap.size < w4.heap.size := by (have := hb4.size; first | omega | (simp at this; omega)))
      | (go_at_call 47; refine (CallMath_AND _ _).mono ?_; rintro e w5 ⟨rfl, hb5⟩; obtain ⟨hc5, hf5⟩ := bcell hb5; have hz5 : w.heap.size < w5.heap.size := by (have := hb5.size; first | omega | (simp at this; omega)))
      | (go_at_call 48; refine (CallText_AND _ _).mono ?_; rintro e w6 ⟨rfl, hb6⟩; obtain ⟨hc6, hf6⟩ := bcell hb6; have hz6 : w.heap.size < w6.heap.size := by (have := hb6.size; first | omega | (simp at this; omega))))
    clear hc1 hf1 hc2 hf2 hc3 hf3 hc4 hf4 hc5 hf5 hc6 hf6
    have hbelow : Below (w.heap.size + 1) (w.alloc (.cells #[.int .i64 0, .int .i64 0, .int .i64 0, .string ⟨#[]⟩, .slice none 0 0] 27)) w6 := by (repeat' (first | (with_reducible exact Below.refl _ _) | (with_reducible assumption) | (with_reducible refine Below.setCell ?_ ?_ _) | (with_reducible refine Below.alloc ?_ ?_ _) | (with_reducible refine Below.drew ?_) | (with_reducible refine below_drewN ?_ _) | (with_reducible refine Below.trans ?_ (Below.mono (by assumption) ?_)) | (simp <;> omega) | omega))
    have hbel0 : Below w.heap.size w w6 := (Below.alloc (Below.refl _ _) (Nat.le_refl _) _).trans (hbelow.mono (by omega))
    clear hb1 hb2 hb3 hb4 hb5 hb6 hz1 hz2 hz3 hz4 hz5
    refine (callLogic_AND vs HS.out A n c (by omega) _ ?_).mono ?_
    · exact ((HR.out.below hbel0).alloc hbel0.size _).more (by simp; omega)
    rintro e w7 ⟨k, n, d, t, hv, rfl, hb7⟩
    have hbel6 : Below (w.heap.size + 1) (w.alloc (.cells #[.int .i64 0, .int .i64 0, .int .i64 0, .string ⟨#[]⟩, .slice none 0 0] 27)) w7 := by (repeat' (first | (with_reducible exact Below.refl _ _) | (with_reducible assumption) | (with_reducible refine Below.setCell ?_ ?_ _) | (with_reducible refine Below.alloc ?_ ?_ _) | (with_reducible refine Below.drew ?_) | (with_reducible refine below_drewN ?_ _) | (with_reducible refine Below.trans ?_ (Below.mono (by assumption) ?_)) | (simp <;> omega) | omega))
    obtain ⟨hc7, hf7, hz7⟩ := own_cells hbel6
    have hbel7 : Below w.heap.size w w7 := (Below.alloc (Below.refl _ _) (Nat.le_refl _) _).trans (hbel6.mono (by omega))
    clear hb7 hbel6 hbelow hbel0
    have HV := hide hv
    clear hv
    go_wp2_with fail
    refine bodyPost_ret (v := .agg #[.int .i64 k, .int .i64 n, .int .i64 d, .string t, .slice none 0 0]) ?_ rfl ⟨k, n, d, t, HV.out, rfl, ?_⟩
    · simp [results, Tryz.results31, go_sem, hc7, hz7]
    · (repeat' (first | (with_reducible exact Below.refl _ _) | (with_reducible assumption) | (with_reducible refine Below.setCell ?_ ?_ _) | (with_reducible refine Below.alloc ?_ ?_ _) | (with_reducible refine Below.drew ?_) | (with_reducible refine below_drewN ?_ _) | (with_reducible refine Below.trans ?_ (Below.mono (by assumption) ?_)) | (simp <;> omega) | omega))

theorem call_AND (vs : List V) (hv : ∀ v ∈ vs, AndV v) (A : Option Addr) (n c : Nat) (hn : n ≤ 30) (w : World) (hr : Rd w w.heap.size 5 A n (cellsV vs)) :
    Calls Tryz.prog 17 #[.string ⟨#[65, 78, 68]⟩, .slice A n c] w (RetAnd vs w) := by
  have HR := hide hr
  clear hr
  go_enter Tryz.func17, Tryz.ntmps17
  go_wp2_with fail
  refine (callOver_AND vs hv A n c hn _ ((HR.out.alloc (Nat.le_refl _) _).more (by simp))).mono ?_
  rintro e w1 ⟨k, n, d, t, hv, rfl, hb1⟩
  obtain ⟨hc1, hf1⟩ := bcell hb1
  have hz1 : w.heap.size < w1.heap.size := by (have := hb1.size; simp at this; omega)
  have HV := hide hv
  clear hv
  go_wp2_with fail
  refine bodyPost_ret (v := .agg #[.int .i64 k, .int .i64 n, .int .i64 d, .string t, .slice none 0 0]) ?_ rfl ⟨k, n, d, t, HV.out, rfl, ?_⟩
  · simp [results, Tryz.results17, go_sem, *]
  · (repeat' (first | (with_reducible exact Below.refl _ _) | (with_reducible assumption) | (with_reducible refine Below.setCell ?_ ?_ _) | (with_reducible refine Below.alloc ?_ ?_ _) | (with_reducible refine Below.drew ?_) | (with_reducible refine below_drewN ?_ _) | (with_reducible refine Below.trans ?_ (Below.mono (by assumption) ?_)) | (simp <;> omega) | omega))
end Go.Proofs.YtemeamckdfnlfaaGreatDoor
