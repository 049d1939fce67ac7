/- The machine's TRIM: its door, the thin package's TRIM. -/
import Derived.Test.YtemeamckdfnlfaaGreatDoorTr5
namespace Go.Proofs.YtemeamckdfnlfaaGreatDoor
open Go Go.RowKit Ieee Fl
attribute [local go_sem] run_store_float
set_option maxRecDepth 100000 in
set_option maxHeartbeats 1000000 in
theorem doorTRIM_any (t : ByteArray) (ht : t.size ≤ 1000) (ha : asciiB t = true) (A : Option Addr) (c : Nat) (w : World) (hr : Rd w w.heap.size 4 A 1 (cellsI [⟨2, 0, t⟩])) :
    Calls Tryz.prog 30 #[.slice A 1 c] w fun e w' => e = .returned (I.mk 2 0 (trimB t)).agg' ∧ Below w.heap.size w w' := by
  have HR := hide hr
  clear hr
  go_enter Tryz.func30, Tryz.ntmps30
  go_wp2_with fail
  refine (doorFuncs_any _).mono ?_
  rintro e w1 ⟨⟨a, rfl⟩, hb1⟩
  have hs1 := hb1.size
  have hb1' : Below w.heap.size w w1 := by (repeat' (first | (with_reducible exact Below.refl _ _) | (with_reducible assumption) | (with_reducible refine Below.setCell ?_ ?_ _) | (with_reducible refine Below.alloc ?_ ?_ _) | (with_reducible refine Below.drew ?_) | (with_reducible refine below_drewN ?_ _) | (with_reducible refine Below.trans ?_ (Below.mono (by assumption) ?_)) | (simp <;> omega) | omega))
  go_wp2_with fail
  refine (innerList_any [⟨2, 0, t⟩] (by intro u hu; simp at hu; subst hu; exact .inr (.inr (.inl rfl))) A 1 c (by omega) _ ((HR.out.below hb1').more hb1'.size)).mono ?_
  rintro e w2 ⟨q, rfl, hq, hch, hb2⟩
  have hs2 := hb2.size
  have HC := hide hch
  clear hch
  go_wp2_with fail
  refine (TRIM_any a q t ht ha _ HC.out).mono ?_
  rintro e w3 ⟨rfl, hb3⟩
  have hs3 := hb3.size
  go_wp2_with fail
  refine (doorArg_any ⟨0, trimB t, false, ⟨#[]⟩, 2⟩ (.inr (.inl rfl)) _).mono ?_
  rintro e w4 ⟨rfl, hb4⟩
  have hs4 := hb4.size
  have k1 : w.heap.size + 1 ≤ w1.heap.size := by have := hb1.size; simpa using this
  have hp1 : Below (w.heap.size + 1) (w.alloc (.cells #[.int .i64 0, .float .f64 0, .string ⟨#[]⟩, .slice none 0 0] 53)) w1 := hb1.mono (by simp)
  have hb := ((hp1.trans (hb2.mono k1)).trans (hb3.mono (by omega))).trans (hb4.mono (by omega))
  obtain ⟨hc, hf, hz⟩ := own_cells hb
  have hb' : Below w.heap.size w w4 := (Below.alloc (Below.refl _ _) (Nat.le_refl _) _).trans (hb.mono (by omega))
  clear hb1 hb2 hb3 hb4 hb HC HR
  unfold I.agg'
  go_wp2_with fail
  refine bodyPost_ret (v := (I.mk 2 0 (trimB t)).agg') ?_ rfl ⟨rfl, ?_⟩
  · simp [results, Tryz.results30, go_sem, I.agg', valOf, hc]
  · (repeat' (first | (with_reducible exact Below.refl _ _) | (with_reducible assumption) | (with_reducible refine Below.setCell ?_ ?_ _) | (with_reducible refine Below.alloc ?_ ?_ _) | (with_reducible refine Below.drew ?_) | (with_reducible refine below_drewN ?_ _) | (with_reducible refine Below.trans ?_ (Below.mono (by assumption) ?_)) | (simp <;> omega) | omega))
set_option maxRecDepth 100000 in
set_option maxHeartbeats 1000000 in
theorem implTRIM_any (t : ByteArray) (ht : t.size ≤ 1000) (ha : asciiB t = true) (A : Option Addr) (c : Nat) (w : World) (hr : Rd w w.heap.size 4 A 1 (cellsI [⟨2, 0, t⟩])) :
    Calls Tryz.prog 16 #[.slice A 1 c] w fun e w' => e = .returned (I.mk 2 0 (trimB t)).agg' ∧ Below w.heap.size w w' := by
  have HR := hide hr
  clear hr
  go_enter Tryz.func16, Tryz.ntmps16
  go_wp2_with fail
  refine (in_any [⟨2, 0, t⟩] A 1 c (by omega) _ ((HR.out.alloc (Nat.le_refl _) _).more (by simp))).mono ?_
  rintro e w1 ⟨A1, c1, rfl, hown, hb1⟩
  have hs1 := hb1.size
  have HO := hide (Rd.of_own hown)
  clear hown
  go_wp2_with fail
  refine (doorTRIM_any t ht ha A1 c1 _ HO.out).mono ?_
  rintro e w2 ⟨rfl, hb2⟩
  have hs2 := hb2.size
  unfold I.agg'
  go_wp2_with fail
  refine (out_any _ _ _ _).mono ?_
  rintro e w3 ⟨rfl, hb3⟩
  have hs3 := hb3.size
  have k1 : w.heap.size + 1 ≤ w1.heap.size := by have := hb1.size; simpa using this
  have hp1 : Below (w.heap.size + 1) (w.alloc (.cells #[.int .i64 0, .float .f64 0, .string ⟨#[]⟩, .slice none 0 0] 47)) w1 := hb1.mono (by simp)
  have hb := (hp1.trans (hb2.mono k1)).trans (hb3.mono (by omega))
  obtain ⟨hc, hf, hz⟩ := own_cells hb
  have hb' : Below w.heap.size w w3 := (Below.alloc (Below.refl _ _) (Nat.le_refl _) _).trans (hb.mono (by omega))
  clear hb1 hb2 hb3 hb HO HR
  go_wp2_with fail
  refine bodyPost_ret (v := (I.mk 2 0 (trimB t)).agg') ?_ rfl ⟨rfl, ?_⟩
  · simp [results, Tryz.results16, go_sem, I.agg', hc]
  · (repeat' (first | (with_reducible exact Below.refl _ _) | (with_reducible assumption) | (with_reducible refine Below.setCell ?_ ?_ _) | (with_reducible refine Below.alloc ?_ ?_ _) | (with_reducible refine Below.drew ?_) | (with_reducible refine below_drewN ?_ _) | (with_reducible refine Below.trans ?_ (Below.mono (by assumption) ?_)) | (simp <;> omega) | omega))
end Go.Proofs.YtemeamckdfnlfaaGreatDoor
