/- The law's comparison at TRIM, and the walk of laws.FnTrim. -/
import Derived.Test.YtemeamckdfnlfaaGreatDoorTr4
import Derived.Test.YtemeamckdfnlfaaGreatDoorTr6
import Derived.Test.YtemeamckdfnlfaaGreatDoorFnTW
namespace Go.Proofs.YtemeamckdfnlfaaGreatDoor
open Go Go.RowKit Ieee Fl
attribute [local go_sem] run_store_float
set_option maxRecDepth 100000 in
set_option maxHeartbeats 2000000 in
theorem agrees_TRIM (x : ByteArray) (hx : x.size ≤ 1000) (A : Option Addr) (c : Nat) (w : World) (hr : Rd w w.heap.size 5 A 1 (cellsV [⟨2, 0, 0, x⟩])) :
    Calls Tryz.prog 9 #[.func (.func 16) #[] #[], .string ⟨#[84, 82, 73, 77]⟩, .slice A 1 c] w fun e w' => e = .returned (.bool true) ∧ Below w.heap.size w w' := by
  have HR := hide hr
  clear hr
  go_enter Tryz.func9, Tryz.ntmps9
  go_wp2_with fail
  refine (call_TRIM x hx A c _ HR.out).mono ?_
  rintro e w1 ⟨k, n, d, t, hw, rfl, hb1⟩
  have hs1 := hb1.size
  have HW := hide hw
  clear hw
  go_wp2_with fail
  refine (table_any _ _ _ _).mono ?_
  rintro e w2 ⟨rfl, hb2⟩
  have hs2 : w1.heap.size + 2 ≤ w2.heap.size := by have := hb2.size; simpa using this
  have hp2 : Below (w1.heap.size + 2) ((w1.alloc (.cells #[.int .i64 k, .int .i64 n, .int .i64 d, .string t, .slice none 0 0] 27)).alloc (.cells #[.slice A 1 c] 29)) w2 := hb2.mono (by simp)
  have hcell : w2.cell? ⟨w1.heap.size + 1, 0, none⟩ = some (.slice A 1 c) := by
    rw [hp2.cell (p := ⟨w1.heap.size + 1, 0, none⟩) (by simp)]
    simp
  have hb02 : Below w.heap.size w w2 := by (repeat' (first | (with_reducible exact Below.refl _ _) | (with_reducible assumption) | (with_reducible refine Below.setCell ?_ ?_ _) | (with_reducible refine Below.alloc ?_ ?_ _) | (with_reducible refine Below.drew ?_) | (with_reducible refine below_drewN ?_ _) | (with_reducible refine Below.trans ?_ (Below.mono (by assumption) ?_)) | (simp <;> omega) | omega))
  go_wp2_with fail
  refine (doubtful_table [⟨2, 0, 0, x⟩] (by intro u hu; simp at hu; subst hu; simp) A 1 c (w1.heap.size + 1) 1 (by omega) _ (by omega) hcell ((HR.out.below hb02).more hb02.size)).mono ?_
  rintro e w3 ⟨rfl, hb3⟩
  have hs3 : w1.heap.size + 2 ≤ w3.heap.size := by have := hb3.size; omega
  have hp3 : Below (w1.heap.size + 1) (w1.alloc (.cells #[.int .i64 k, .int .i64 n, .int .i64 d, .string t, .slice none 0 0] 27)) w3 :=
    ((Below.alloc (Below.refl _ _) (by simp) _).trans (hp2.mono (by omega))).trans (hb3.mono (by omega))
  have hb03 : Below w.heap.size w w3 := hb02.trans (hb3.mono (by omega))
  obtain ⟨hc3, hf3, hz3⟩ := own_cells hp3
  clear hb1 hb2 hp2 hcell hb02 hb3 hp3 hf3
  rw [show unsure [(⟨2, 0, 0, x⟩ : V)] = false from rfl]
  · have h5 : k ≠ 5 := by
      rcases HW.out with h | h
      · omega
      · unfold wantTrim at h
        split at h <;> (cases h; omega)
    have HD := hide (doubtful_one ⟨k, n, d, t⟩ h5)
    clear h5
    go_wp2_with fail
    refine (HD.out _).mono ?_
    rintro e w4 ⟨rfl, hb4⟩
    have hs4 := hb4.size
    obtain ⟨o, ho⟩ : ∃ o, unsure [(⟨k, n, d, t⟩ : V)] = o := ⟨_, rfl⟩
    rw [ho]
    have HO4 := hide ho
    clear ho
    have hc4 : ∀ o, w4.cell? ⟨w1.heap.size, o, none⟩ = (#[.int .i64 k, .int .i64 n, .int .i64 d, .string t, .slice none 0 0] : Array Value)[o]? := fun o => (hb4.cell (p := ⟨w1.heap.size, o, none⟩) hz3).trans (hc3 o)
    have hb04 : Below w.heap.size w w4 := hb03.trans (hb4.mono (by omega))
    cases o
    · have hT : asciiB x = true ∧ V.mk k n d t = ⟨2, 0, 0, trimB x⟩ := by
        rcases HW.out with h | h
        · have := HO4.out
          subst h
          simp [unsure] at this
        · unfold wantTrim at h
          split at h
          · rename_i ha; exact ⟨ha, h⟩
          · have := HO4.out
            rw [h] at this
            simp [unsure] at this
      obtain ⟨hasc, hT⟩ := hT
      cases hT
      have HS := hide (same_any 0 ⟨2, 0, 0, trimB x⟩ ⟨by simp, by simp⟩ (by rw [show xOf ⟨2, 0, 0, trimB x⟩ = 0 from by simp [xOf]]; exact order00))
      have HA := hide (all_any [⟨2, 0, 0, x⟩] (by intro u hu; simp at hu; subst hu; exact ⟨by simp, by simp⟩) A 1 c (by omega) w4.drew ((HR.out.below hb04).more hb04.size).drew)
      have HI := hide (implTRIM_any x hx hasc)
      have hz4 : w1.heap.size < w4.heap.size := by omega
      clear HD hc3 HW HR HO4
      go_wp2_with fail
      go_region_with (first
        | (go_at_call 21; refine HA.out.mono ?_; rintro e w5 ⟨A5, c5, rfl, hown5, hb5⟩; have HR5 := hide (Rd.of_own hown5); clear hown5; have hz5 : w1.heap.size < w5.heap.size := Nat.lt_of_lt_of_le hz4 hb5.size; have hc5 : ∀ o, w5.cell? ⟨w1.heap.size, o, none⟩ = (#[.int .i64 2, .int .i64 0, .int .i64 0, .string (trimB x), .slice none 0 0] : Array Value)[o]? := fun o => (hb5.cell (p := ⟨w1.heap.size, o, none⟩) hz4).trans (hc4 o))
        | (go_at_call 16; refine (HI.out A5 c5 _ HR5.out).mono ?_; rintro e w6 ⟨rfl, hb6⟩; dsimp only [I.agg']; have hz6 : w1.heap.size < w6.heap.size := Nat.lt_of_lt_of_le hz5 hb6.size; have hc6 : ∀ o, w6.cell? ⟨w1.heap.size, o, none⟩ = (#[.int .i64 2, .int .i64 0, .int .i64 0, .string (trimB x), .slice none 0 0] : Array Value)[o]? := fun o => (hb6.cell (p := ⟨w1.heap.size, o, none⟩) hz5).trans (hc5 o))
        | (go_at_call 20; refine (HS.out _).mono ?_; rintro e w7 ⟨rfl, hb7⟩))
      all_goals
        go_wp2_with fail
        go_ret
        exact ⟨rfl, ((((Below.drew hb04).trans (hb5.mono hb04.size)).trans (hb6.mono (Nat.le_trans hb04.size hb5.size))).trans (hb7.mono (Nat.le_trans (Nat.le_trans hb04.size hb5.size) hb6.size)))⟩
    · go_wp2_with fail
      go_ret
      exact ⟨rfl, hb04⟩
set_option maxRecDepth 100000 in
theorem fnTrim_any (t : ByteArray) (w : World) : Calls Tryz.prog 7 #[.string t] w fun e w' => e = .returned (.bool true) ∧ Below w.heap.size w w' := by
  by_cases h1 : t.size ≤ 1000
  · have hd : decide (t.size ≤ 1000) = true := by simpa using h1
    go_enter Tryz.func7, Tryz.ntmps7
    go_wp2_with fail
    refine (short_one t w.heap.size 1 _ (by simp)).mono ?_
    rintro e w1 ⟨rfl, rfl⟩
    rw [hd]
    go_wp2_with fail
    refine (str_any t _).mono ?_
    rintro e w1 ⟨rfl, hb1⟩
    have hs1 := hb1.size
    go_wp2_with fail
    refine (agrees_TRIM t h1 _ _ _ (rd_one ⟨2, 0, 0, t⟩ w1)).mono ?_
    rintro e w2 ⟨rfl, hb2⟩
    have hs2 := hb2.size
    have hb01 : Below w.heap.size w w1 := by (repeat' (first | (with_reducible exact Below.refl _ _) | (with_reducible assumption) | (with_reducible refine Below.setCell ?_ ?_ _) | (with_reducible refine Below.alloc ?_ ?_ _) | (with_reducible refine Below.drew ?_) | (with_reducible refine below_drewN ?_ _) | (with_reducible refine Below.trans ?_ (Below.mono (by assumption) ?_)) | (simp <;> omega) | omega))
    have hb02 : Below w.heap.size w w2 := (Below.alloc hb01 hb01.size _).trans (hb2.mono (by have := hb01.size; simp; omega))
    clear hb1 hb2 hb01
    go_wp2_with fail
    go_ret
    exact ⟨rfl, hb02⟩
  · have hd : decide (t.size ≤ 1000) = false := by simpa using h1
    go_enter Tryz.func7, Tryz.ntmps7
    go_wp2_with (go_at_call 8; refine (short_one t w.heap.size 1 _ (by simp)).mono ?_; rintro e w1 ⟨rfl, rfl⟩; rw [hd])
    all_goals
      go_ret
      exact ⟨rfl, by (repeat' (first | (with_reducible exact Below.refl _ _) | (with_reducible assumption) | (with_reducible refine Below.setCell ?_ ?_ _) | (with_reducible refine Below.alloc ?_ ?_ _) | (with_reducible refine Below.drew ?_) | (with_reducible refine below_drewN ?_ _) | (with_reducible refine Below.trans ?_ (Below.mono (by assumption) ?_)) | (simp <;> omega) | omega))⟩
end Go.Proofs.YtemeamckdfnlfaaGreatDoor
