/- Contract of the machine's mid. -/
import Derived.Test.YtoglgdapaonioaaGreatDoorK5
namespace Go.Proofs.YtoglgdapaonioaaGreatDoor
open Go Go.RowKit Ieee Fl
attribute [local go_sem] run_store_float
theorem extract_none (t : ByteArray) (a : Nat) : t.extract a a = ⟨#[]⟩ := by
  apply ByteArray.ext
  apply Array.ext'
  simp
set_option maxRecDepth 100000 in
set_option maxHeartbeats 4000000 in
theorem mid_any (a : Addr) (q : Nat → Nat) (t : ByteArray) (hlow : Low t) (ht : t.size ≤ 1000) (x1 x2 i k : Nat) (hi : i + k ≤ t.size) (hx1 : Is x1 ((i : Int) + 1) 0) (hx2 : Is x2 k 0) (w : World) (hch : Chain w 3 q [⟨0, t, false, ⟨#[]⟩, 2⟩, ⟨x1, ⟨#[]⟩, false, ⟨#[]⟩, 1⟩, ⟨x2, ⟨#[]⟩, false, ⟨#[]⟩, 1⟩]) :
    Calls Tryz.prog 35 #[.pointer (some a), .string ⟨#[77, 73, 68]⟩, .pointer (some ⟨q 0, 0, none⟩)] w fun e w' => e = .returned (F.agg ⟨0, t.extract i (i + k), false, ⟨#[]⟩, 2⟩) ∧ Below w.heap.size w w' := by
  have HCh := hide hch
  obtain ⟨p1, p2, p3, p4, p5⟩ := hch
  obtain ⟨-, f1, ef1, c1⟩ := p5 0 (by omega)
  obtain ⟨-, f2, ef2, c2⟩ := p5 1 (by omega)
  obtain ⟨-, f3, ef3, c3⟩ := p5 2 (by omega)
  simp only [List.getElem?_cons_zero, List.getElem?_cons_succ, Option.some.injEq] at ef1 ef2 ef3
  subst ef1 ef2 ef3
  have p7 := (p1 0 (by omega)).2.2.2
  rw [if_pos (by omega)] at p7
  have g0 := (p1 0 (by omega)).1
  have g1 := (p1 1 (by omega)).1
  have g2 := (p1 2 (by omega)).1
  have g3 := (p1 3 (by omega)).1
  simp only [Nat.zero_add, Nat.reduceAdd] at c1 c2 c3 p7
  rw [show (((3 : Nat)) : Int) = 3 from rfl] at p3
  clear p1 p2 p4 p5
  have HN1 : Hid (∀ w', Below w.heap.size w w' → Calls Tryz.prog 51 #[.pointer (some ⟨q 1, 0, none⟩)] w' fun e w'' => e = .returned (.pointer (some ⟨q 2, 0, none⟩)) ∧ w' = w'') := hide fun w' hb => next_chain_more q 3 _ w' (HCh.out.below hb) 0 (by omega)
  have HN2 : Hid (∀ w', Below w.heap.size w w' → Calls Tryz.prog 51 #[.pointer (some ⟨q 2, 0, none⟩)] w' fun e w'' => e = .returned (.pointer (some ⟨q 3, 0, none⟩)) ∧ w' = w'') := hide fun w' hb => next_chain_more q 3 _ w' (HCh.out.below hb) 1 (by omega)
  clear HCh
  generalize q 0 = L at *
  generalize q 1 = E1 at *
  generalize q 2 = E2 at *
  generalize q 3 = E3 at *
  clear q
  simp only [F.agg] at c1 c2 c3
  obtain ⟨s, es⟩ : ∃ s, t.extract i (i + k) = s := ⟨_, rfl⟩
  rw [es]
  have HE := hide es
  clear es
  go_enter Tryz.func35, Tryz.ntmps35
  go_wp2_with (first
    | (go_at_call 36; refine (len_any L 3 _ ((World.cell?_alloc_lt _ _ _ g0).trans p3)).mono ?_; rintro e w1 ⟨rfl, rfl⟩)
    | (go_at_call 38; refine (front_any L E1 3 (by omega) _ ((World.cell?_alloc_lt _ _ _ g0).trans p3) ((World.cell?_alloc_lt _ _ _ g0).trans p7)).mono ?_; rintro e w1 ⟨rfl, rfl⟩))
  refine (value_2 _ _ _ _ _).mono ?_
  rintro e w1 ⟨rfl, hb1⟩
  have hb01 : Below (w.heap.size + 1) (w.alloc (.cells #[.string ⟨#[]⟩, .float .f64 0, .string ⟨#[]⟩, .slice none 0 0, .slice none 0 0, .bool false, .string ⟨#[]⟩, .int .u8 0, .pointer none, .pointer none] 57)) w1 := hb1.mono (by simp)
  have hz1 : w.heap.size + 1 ≤ w1.heap.size := by have := hb01.size; simpa using this
  have hbw1 : Below w.heap.size w w1 := (Below.alloc (Below.refl _ _) (Nat.le_refl _) _).trans (hb01.mono (by omega))
  have k4 := (hbw1.cell (p := ⟨L, 4, none⟩) g0).trans p3
  have k0 := (hbw1.cell (p := ⟨L, 0, none⟩) g0).trans p7
  have k2 := (hbw1.cell (p := ⟨E2, 3, none⟩) g2).trans c2
  have k3 := (hbw1.cell (p := ⟨E3, 3, none⟩) g3).trans c3
  clear hb1
  go_wp2_with fail
  refine (front_any L E1 3 (by omega) _ k4 k0).mono ?_
  rintro e w2 ⟨rfl, rfl⟩
  go_wp2_with fail
  refine (HN1.out _ hbw1).mono ?_
  rintro e w2 ⟨rfl, rfl⟩
  go_wp2_with fail
  refine (toNumber_any x1 (is_self hx1) _).mono ?_
  rintro e w2 ⟨rfl, hb2⟩
  have hy1 := is_numOf hx1
  obtain ⟨y1, ey1⟩ : ∃ y, numOf x1 = y := ⟨_, rfl⟩
  rw [ey1] at hy1 ⊢
  dsimp only [F.agg]
  have hb02 := hb01.trans (hb2.mono hz1)
  have hz2 : w1.heap.size ≤ w2.heap.size := hb2.size
  have hbw2 : Below w.heap.size w w2 := hbw1.trans (hb2.mono hbw1.size)
  have m4 := (hbw2.cell (p := ⟨L, 4, none⟩) g0).trans p3
  have m0 := (hbw2.cell (p := ⟨L, 0, none⟩) g0).trans p7
  have m3 := (hbw2.cell (p := ⟨E3, 3, none⟩) g3).trans c3
  clear hb2 k4 k0 k2 k3 ey1 hx1
  go_wp2_with fail
  refine (front_any L E1 3 (by omega) _ m4 m0).mono ?_
  rintro e w3 ⟨rfl, rfl⟩
  go_wp2_with fail
  refine (HN1.out _ hbw2).mono ?_
  rintro e w3 ⟨rfl, rfl⟩
  go_wp2_with fail
  refine (HN2.out _ hbw2).mono ?_
  rintro e w3 ⟨rfl, rfl⟩
  go_wp2_with fail
  refine (toNumber_any x2 (is_self hx2) _).mono ?_
  rintro e w3 ⟨rfl, hb3⟩
  have hy2 := is_numOf hx2
  obtain ⟨y2, ey2⟩ : ∃ y, numOf x2 = y := ⟨_, rfl⟩
  rw [ey2] at hy2 ⊢
  dsimp only [F.agg]
  have hb03 := hb02.trans (hb3.mono (by omega))
  have hz3 : w2.heap.size ≤ w3.heap.size := hb3.size
  clear hb3 m4 m0 m3 ey2 hx2 HN1 HN2 p3 p7 c1 c2 c3 hbw1 hbw2 hb01 hb02
  have hfi : ∀ (r : Nat) (n : Int), Is r n 0 → -1000000 ≤ n → n ≤ 1000000 → ∀ W, (convert 34 3 (.float .f64 r)).run Tryz.prog W = .ok (.int .i64 n) W := fun r n hr h1 h2 W => run_convert_float_int W 34 3 .f64 .i64 r n (by kernel_rfl) Tryz.underlying3 (by
    unfold floatToIntVal
    rw [show (FloatKind.f64.decode r).toInt .zero = some n from toInt_is hr]
    simp [IntKind.min, IntKind.max, IntKind.signed, IntKind.bits]
    omega)
  have hf1 := hfi y1 _ hy1 (by omega) (by omega)
  have hf2 := hfi y2 _ hy2 (by omega) (by omega)
  have hneg : (FloatKind.f64.format.order y2 0 == some .lt) = false := by
    have h1 := order_is hy2 (is_int 0 (by decide))
    rw [zero_is] at h1
    have h2 : FloatKind.f64.format.order y2 0 = some (compare (k : Int) 0) := h1
    rw [h2]
    by_cases h0 : k = 0
    · subst h0; rfl
    · rw [show compare (k : Int) 0 = .gt from Int.compare_eq_gt.2 (by omega)]; rfl
  clear hy1 hy2 hfi
  have HC := hide (count_any t hlow ht)
  go_wp2_with fail
  refine (HC.out _).mono ?_
  rintro e w4 ⟨rfl, hb4⟩
  have hb04 := ((hb03.alloc (by omega) _).alloc (by simp; omega) _).trans (hb4.mono (by simp; omega))
  have hn : ∀ o, w4.cell? ⟨w3.heap.size + 1, o, none⟩ = (#[.string ⟨#[]⟩, .float .f64 y2, .string ⟨#[]⟩, .slice none 0 0, .slice none 0 0, .bool false, .string ⟨#[]⟩, .int .u8 1, .pointer none, .pointer none] : Array Value)[o]? := fun o =>
    (hb4.cell (p := ⟨w3.heap.size + 1, o, none⟩) (by simp)).trans (by simp)
  have hz4 : w3.heap.size + 2 ≤ w4.heap.size := by have := hb4.size; simpa using this
  clear hb4 hb03 HC
  have es := HE.out
  by_cases hlt : i < t.size
  · have hgt : ¬ ((t.size : Int) < (i : Int) + 1) := by omega
    obtain ⟨cap, hcap, hconv⟩ := run_to_runes (P := Tryz.prog) w4 9 74 21 t Tryz.underlying9 Tryz.underlying74 Tryz.underlying21 hlow ht
    have hci : ¬ cap = i := by omega
    have hback : (convert 74 9 (.slice (some ⟨w4.heap.size, i, none⟩) k (cap - i))).run Tryz.prog (w4.alloc (.cells (runeCells t cap) 21)).drew = .ok (.string s) (w4.alloc (.cells (runeCells t cap) 21)).drew := by
      have := run_part (P := Tryz.prog) (w4.alloc (.cells (runeCells t cap) 21)).drew 74 9 21 w4.heap.size i k (cap - i) t Tryz.underlying74 Tryz.underlying21 Tryz.underlying9 hlow hi (fun j hj => (World.cell?_alloc_mark w4 (runeCells t cap) 21 (0, 0) j).trans (runeCells_at t cap j hj))
      rw [es] at this
      exact this
    clear es
    go_wp2_with fail
    refine (newString_any _ _).mono ?_
    rintro e w5 ⟨rfl, hb5⟩
    dsimp only [F.agg]
    have hB := (Below.drew (hb04.alloc (by omega) (.cells (runeCells t cap) 21))).trans (hb5.mono (by show _ ≤ (w4.alloc _).heap.size; simp; omega))
    obtain ⟨hc, hf, hz⟩ := own_cells hB
    have hbel : Below w.heap.size w w5 := (Below.alloc (Below.refl _ _) (Nat.le_refl _) _).trans (hB.mono (by omega))
    clear hB hb5 hb04
    go_wp2_with fail
    refine bodyPost_ret (v := F.agg ⟨0, s, false, ⟨#[]⟩, 2⟩) ?_ rfl ⟨rfl, ?_⟩
    · simp [results, Tryz.results35, go_sem, F.agg, hc]
    · (repeat' (first | (with_reducible exact Below.refl _ _) | (with_reducible assumption) | (with_reducible refine Below.setCell ?_ ?_ _) | (with_reducible refine Below.alloc ?_ ?_ _) | (with_reducible refine Below.drew ?_) | (with_reducible refine below_drewN ?_ _) | (with_reducible refine Below.trans ?_ (Below.mono (by assumption) ?_)) | (simp <;> omega) | omega))
  · have hk0 : k = 0 := by omega
    have hie : i = t.size := by omega
    subst hk0 hie
    rw [Nat.add_zero, extract_none] at es
    subst es
    go_wp2_with fail
    refine (newString_any _ _).mono ?_
    rintro e w5 ⟨rfl, hb5⟩
    dsimp only [F.agg]
    have hB := hb04.trans (hb5.mono (by omega))
    obtain ⟨hc, hf, hz⟩ := own_cells hB
    have hbel : Below w.heap.size w w5 := (Below.alloc (Below.refl _ _) (Nat.le_refl _) _).trans (hB.mono (by omega))
    clear hB hb5 hb04
    go_wp2_with fail
    refine bodyPost_ret (v := F.agg ⟨0, ⟨#[]⟩, false, ⟨#[]⟩, 2⟩) ?_ rfl ⟨rfl, ?_⟩
    · simp [results, Tryz.results35, go_sem, F.agg, hc]
    · (repeat' (first | (with_reducible exact Below.refl _ _) | (with_reducible assumption) | (with_reducible refine Below.setCell ?_ ?_ _) | (with_reducible refine Below.alloc ?_ ?_ _) | (with_reducible refine Below.drew ?_) | (with_reducible refine below_drewN ?_ _) | (with_reducible refine Below.trans ?_ (Below.mono (by assumption) ?_)) | (simp <;> omega) | omega))
end Go.Proofs.YtoglgdapaonioaaGreatDoor
