/- Contract of the machine's leftRight, for RIGHT. -/
import Derived.Test.YtoglgdapaonioaaGreatDoorK2
namespace Go.Proofs.YtoglgdapaonioaaGreatDoor
open Go Go.RowKit Ieee Fl
attribute [local go_sem] run_store_float
theorem extract_same (t : ByteArray) (a b : Nat) : t.extract a a = t.extract b b := by
  apply ByteArray.ext
  apply Array.ext'
  simp
set_option maxRecDepth 100000 in
set_option maxHeartbeats 2000000 in
theorem right_any (a : Addr) (q : Nat → Nat) (t : ByteArray) (hlow : Low t) (ht : t.size ≤ 1000) (x i : Nat) (hi : i ≤ t.size) (hx : Is x i 0) (w : World) (hch : Chain w 2 q [⟨0, t, false, ⟨#[]⟩, 2⟩, ⟨x, ⟨#[]⟩, false, ⟨#[]⟩, 1⟩]) :
    Calls Tryz.prog 31 #[.pointer (some a), .string ⟨#[82, 73, 71, 72, 84]⟩, .pointer (some ⟨q 0, 0, none⟩)] w fun e w' => e = .returned (F.agg ⟨0, t.extract (t.size - i) t.size, false, ⟨#[]⟩, 2⟩) ∧ Below w.heap.size w w' := by
  obtain ⟨p1, p2, p3, p4, p5⟩ := hch
  obtain ⟨-, f1, ef1, c1⟩ := p5 0 (by omega)
  obtain ⟨-, f2, ef2, c2⟩ := p5 1 (by omega)
  simp only [List.getElem?_cons_zero, List.getElem?_cons_succ, Option.some.injEq] at ef1 ef2
  subst ef1 ef2
  have p7 := (p1 0 (by omega)).2.2.2
  rw [if_pos (by omega)] at p7
  have g0 := (p1 0 (by omega)).1
  have g1 := (p1 1 (by omega)).1
  have g2 := (p1 2 (by omega)).1
  simp only [Nat.zero_add, Nat.reduceAdd] at c1 c2 p7
  rw [show (((2 : Nat)) : Int) = 2 from rfl] at p3
  have p2' := p2
  clear p1 p4 p5 p2'
  generalize q 0 = L at *
  generalize q 1 = E at *
  generalize q 2 = E2 at *
  clear q
  simp only [F.agg] at c1 c2
  obtain ⟨s, es⟩ : ∃ s, t.extract (t.size - i) t.size = s := ⟨_, rfl⟩
  rw [es]
  have HE := hide es
  clear es
  go_enter Tryz.func31, Tryz.ntmps31
  go_wp2_with (first
    | (go_at_call 36; refine (len_any L 2 _ ((World.cell?_alloc_lt _ _ _ g0).trans p3)).mono ?_; rintro e w1 ⟨rfl, rfl⟩)
    | (go_at_call 38; refine (front_any L E 2 (by omega) _ ((World.cell?_alloc_lt _ _ _ g0).trans p3) ((World.cell?_alloc_lt _ _ _ g0).trans p7)).mono ?_; rintro e w1 ⟨rfl, rfl⟩))
  refine (value_2 _ _ _ _ _).mono ?_
  rintro e w1 ⟨rfl, hb1⟩
  have hb01 : Below (w.heap.size + 1) (w.alloc (.cells #[.string ⟨#[]⟩, .float .f64 0, .string ⟨#[]⟩, .slice none 0 0, .slice none 0 0, .bool false, .string ⟨#[]⟩, .int .u8 0, .pointer none, .pointer none] 57)) w1 := hb1.mono (by simp)
  have hz1 : w.heap.size + 1 ≤ w1.heap.size := by have := hb01.size; simpa using this
  have hbw1 : Below w.heap.size w w1 := (Below.alloc (Below.refl _ _) (Nat.le_refl _) _).trans (hb01.mono (by omega))
  obtain ⟨cap, hcap, hconv⟩ := run_to_runes (P := Tryz.prog) w1 9 74 21 t Tryz.underlying9 Tryz.underlying74 Tryz.underlying21 hlow ht
  have k4 : ∀ o, (w1.alloc o).cell? ⟨L, 4, none⟩ = some (.int .i64 2) := fun o => (World.cell?_alloc_lt _ _ _ (by show L < _; omega)).trans ((hbw1.cell (p := ⟨L, 4, none⟩) g0).trans p3)
  have k1 : ∀ o, (w1.alloc o).cell? ⟨L, 1, none⟩ = some (.pointer (some ⟨E2, 0, none⟩)) := fun o => (World.cell?_alloc_lt _ _ _ (by show L < _; omega)).trans ((hbw1.cell (p := ⟨L, 1, none⟩) g0).trans p2)
  have k3 := fun o => (World.cell?_alloc_lt w1 o ⟨E2, 3, none⟩ (by show E2 < _; omega)).trans ((hbw1.cell (p := ⟨E2, 3, none⟩) g2).trans c2)
  have k4' : ∀ o, (w1.alloc o).drew.cell? ⟨L, 4, none⟩ = some (.int .i64 2) := k4
  have k1' : ∀ o, (w1.alloc o).drew.cell? ⟨L, 1, none⟩ = some (.pointer (some ⟨E2, 0, none⟩)) := k1
  clear hb1
  go_wp2_with (first
    | (go_at_call 36; refine (len_any L 2 _ (k4' _)).mono ?_; rintro e w2 ⟨rfl, rfl⟩)
    | (go_at_call 40; refine (back_any L E2 2 (by omega) _ (k4' _) (k1' _)).mono ?_; rintro e w2 ⟨rfl, rfl⟩))
  refine (toNumber_any x (is_self hx) _).mono ?_
  rintro e w2 ⟨rfl, hb2⟩
  have hy := is_numOf hx
  obtain ⟨y, ey⟩ : ∃ y, numOf x = y := ⟨_, rfl⟩
  rw [ey] at hy ⊢
  dsimp only [F.agg]
  have hb02 : Below (w.heap.size + 1) (w.alloc (.cells #[.string ⟨#[]⟩, .float .f64 0, .string ⟨#[]⟩, .slice none 0 0, .slice none 0 0, .bool false, .string ⟨#[]⟩, .int .u8 0, .pointer none, .pointer none] 57)) w2 := (Below.drew (hb01.alloc hz1 _)).trans (hb2.mono (by show _ ≤ (w1.alloc _).heap.size; simp; omega))
  have hrun : ∀ j, j < t.size → w2.cell? ⟨w1.heap.size, j, none⟩ = some (.int .i32 ((runesOf t).getD j 0)) := fun j hj =>
    (hb2.cell (p := ⟨w1.heap.size, j, none⟩) (by show w1.heap.size < (w1.alloc _).heap.size; simp)).trans ((World.cell?_alloc_mark w1 (runeCells t cap) 21 (0, 0) j).trans (runeCells_at t cap j hj))
  have hz2 : w1.heap.size + 1 ≤ w2.heap.size := by have := hb2.size; simpa using this
  clear hb2 k4 k1 k3 k4' k1' hconv hx ey
  have hneg : (FloatKind.f64.format.order y 0 == some .lt) = false := by
    have h1 := order_is hy (is_int 0 (by decide))
    rw [zero_is] at h1
    have h2 : FloatKind.f64.format.order y 0 = some (compare (i : Int) 0) := h1
    rw [h2]
    by_cases h0 : i = 0
    · subst h0; rfl
    · rw [show compare (i : Int) 0 = .gt from Int.compare_eq_gt.2 (by omega)]; rfl
  have hlen : Is (floatOfInt .f64 (t.size : Int)) t.size 0 := is_int _ (by omega)
  have HM := hide (min_any hy hlen (by omega))
  clear hlen hy
  go_wp2_with fail
  refine (HM.out _).mono ?_
  rintro e w3 ⟨r, hr, rfl, rfl⟩
  have hfi : ∀ W, (convert 34 3 (.float .f64 r)).run Tryz.prog W = .ok (.int .i64 i) W := fun W => run_convert_float_int W 34 3 .f64 .i64 r i (by kernel_rfl) Tryz.underlying3 (by
    unfold floatToIntVal
    rw [show (FloatKind.f64.decode r).toInt .zero = some (i : Int) from toInt_is hr]
    simp [IntKind.min, IntKind.max, IntKind.signed, IntKind.bits]
    omega)
  clear HM hr
  have es := HE.out
  by_cases hlt : i < t.size
  · by_cases hcz : cap = t.size - i
    · have hi0 : i = 0 := by omega
      have hback : ∀ o, (convert 74 9 (.slice (some ⟨w1.heap.size, 0, none⟩) 0 0)).run Tryz.prog (w2.alloc o) = .ok (.string s) (w2.alloc o) := fun o => by
        have := run_part (P := Tryz.prog) (w2.alloc o) 74 9 21 w1.heap.size 0 0 0 t Tryz.underlying74 Tryz.underlying21 Tryz.underlying9 hlow (by omega) (fun j hj => (World.cell?_alloc_lt w2 o ⟨w1.heap.size, j, none⟩ (by show w1.heap.size < _; omega)).trans (hrun j hj))
        rw [Nat.zero_add, extract_same t 0 t.size] at this
        rw [show t.size - i = t.size by omega] at es
        rw [es] at this
        exact this
      clear es
      go_wp2_with fail
      refine (newString_any _ _).mono ?_
      rintro e w4 ⟨rfl, hb4⟩
      dsimp only [F.agg]
      have hB := (hb02.alloc (by omega) _).trans (hb4.mono (by simp; omega))
      obtain ⟨hc, hf, hz⟩ := own_cells hB
      have hbel : Below w.heap.size w w4 := (Below.alloc (Below.refl _ _) (Nat.le_refl _) _).trans (hB.mono (by omega))
      clear hB hb4 hb02 hb01
      go_wp2_with fail
      refine bodyPost_ret (v := F.agg ⟨0, s, false, ⟨#[]⟩, 2⟩) ?_ rfl ⟨rfl, ?_⟩
      · simp [results, Tryz.results31, go_sem, F.agg, hc]
      · (repeat' (first | (with_reducible exact Below.refl _ _) | (with_reducible assumption) | (with_reducible refine Below.setCell ?_ ?_ _) | (with_reducible refine Below.alloc ?_ ?_ _) | (with_reducible refine Below.drew ?_) | (with_reducible refine below_drewN ?_ _) | (with_reducible refine Below.trans ?_ (Below.mono (by assumption) ?_)) | (simp <;> omega) | omega))
    · have hback : ∀ o, (convert 74 9 (.slice (some ⟨w1.heap.size, t.size - i, none⟩) (t.size - (t.size - i)) (cap - (t.size - i)))).run Tryz.prog (w2.alloc o) = .ok (.string s) (w2.alloc o) := fun o => by
        have := run_part (P := Tryz.prog) (w2.alloc o) 74 9 21 w1.heap.size (t.size - i) (t.size - (t.size - i)) (cap - (t.size - i)) t Tryz.underlying74 Tryz.underlying21 Tryz.underlying9 hlow (by omega) (fun j hj => (World.cell?_alloc_lt w2 o ⟨w1.heap.size, j, none⟩ (by show w1.heap.size < _; omega)).trans (hrun j hj))
        rw [show t.size - i + (t.size - (t.size - i)) = t.size by omega, es] at this
        exact this
      clear es
      go_wp2_with fail
      refine (newString_any _ _).mono ?_
      rintro e w4 ⟨rfl, hb4⟩
      dsimp only [F.agg]
      have hB := (hb02.alloc (by omega) _).trans (hb4.mono (by simp; omega))
      obtain ⟨hc, hf, hz⟩ := own_cells hB
      have hbel : Below w.heap.size w w4 := (Below.alloc (Below.refl _ _) (Nat.le_refl _) _).trans (hB.mono (by omega))
      clear hB hb4 hb02 hb01
      go_wp2_with fail
      refine bodyPost_ret (v := F.agg ⟨0, s, false, ⟨#[]⟩, 2⟩) ?_ rfl ⟨rfl, ?_⟩
      · simp [results, Tryz.results31, go_sem, F.agg, hc]
      · (repeat' (first | (with_reducible exact Below.refl _ _) | (with_reducible assumption) | (with_reducible refine Below.setCell ?_ ?_ _) | (with_reducible refine Below.alloc ?_ ?_ _) | (with_reducible refine Below.drew ?_) | (with_reducible refine below_drewN ?_ _) | (with_reducible refine Below.trans ?_ (Below.mono (by assumption) ?_)) | (simp <;> omega) | omega))
  · have hback : ∀ o, (convert 74 9 (.slice (some ⟨w1.heap.size, 0, none⟩) t.size cap)).run Tryz.prog (w2.alloc o) = .ok (.string s) (w2.alloc o) := fun o => by
      have := run_part (P := Tryz.prog) (w2.alloc o) 74 9 21 w1.heap.size 0 t.size cap t Tryz.underlying74 Tryz.underlying21 Tryz.underlying9 hlow (by omega) (fun j hj => (World.cell?_alloc_lt w2 o ⟨w1.heap.size, j, none⟩ (by show w1.heap.size < _; omega)).trans (hrun j hj))
      rw [Nat.zero_add] at this
      rw [show t.size - i = 0 by omega] at es
      rw [es] at this
      exact this
    clear es
    go_wp2_with fail
    refine (newString_any _ _).mono ?_
    rintro e w4 ⟨rfl, hb4⟩
    dsimp only [F.agg]
    have hB := (hb02.alloc (by omega) _).trans (hb4.mono (by simp; omega))
    obtain ⟨hc, hf, hz⟩ := own_cells hB
    have hbel : Below w.heap.size w w4 := (Below.alloc (Below.refl _ _) (Nat.le_refl _) _).trans (hB.mono (by omega))
    clear hB hb4 hb02 hb01
    go_wp2_with fail
    refine bodyPost_ret (v := F.agg ⟨0, s, false, ⟨#[]⟩, 2⟩) ?_ rfl ⟨rfl, ?_⟩
    · simp [results, Tryz.results31, go_sem, F.agg, hc]
    · (repeat' (first | (with_reducible exact Below.refl _ _) | (with_reducible assumption) | (with_reducible refine Below.setCell ?_ ?_ _) | (with_reducible refine Below.alloc ?_ ?_ _) | (with_reducible refine Below.drew ?_) | (with_reducible refine below_drewN ?_ _) | (with_reducible refine Below.trans ?_ (Below.mono (by assumption) ?_)) | (simp <;> omega) | omega))
end Go.Proofs.YtoglgdapaonioaaGreatDoor
