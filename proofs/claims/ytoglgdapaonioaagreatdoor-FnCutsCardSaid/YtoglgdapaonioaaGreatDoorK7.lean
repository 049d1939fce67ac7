/- The machine's LEFT, RIGHT and MID: the functions, their doors, the thin package's. -/
import Derived.Test.YtoglgdapaonioaaGreatDoorK3
import Derived.Test.YtoglgdapaonioaaGreatDoorK4
import Derived.Test.YtoglgdapaonioaaGreatDoorK6
namespace Go.Proofs.YtoglgdapaonioaaGreatDoor
open Go Go.RowKit Ieee Fl
attribute [local go_sem] run_store_float
set_option maxRecDepth 100000 in
theorem LEFT_any (a : Addr) (q : Nat → Nat) (t : ByteArray) (hlow : Low t) (ht : t.size ≤ 1000) (x i : Nat) (hi : i ≤ t.size) (hx : Is x i 0) (w : World) (hch : Chain w 2 q [⟨0, t, false, ⟨#[]⟩, 2⟩, ⟨x, ⟨#[]⟩, false, ⟨#[]⟩, 1⟩]) :
    Calls Tryz.prog 26 #[.pointer (some a), .pointer (some ⟨q 0, 0, none⟩)] w fun e w' => e = .returned (F.agg ⟨0, t.extract 0 i, false, ⟨#[]⟩, 2⟩) ∧ Below w.heap.size w w' := by
  have HC := hide (hch.below (Below.alloc (Below.refl w.heap.size w) (Nat.le_refl _) (.cells #[.string ⟨#[]⟩, .float .f64 0, .string ⟨#[]⟩, .slice none 0 0, .slice none 0 0, .bool false, .string ⟨#[]⟩, .int .u8 0, .pointer none, .pointer none] 57)))
  obtain ⟨s, es⟩ : ∃ s, t.extract 0 i = s := ⟨_, rfl⟩
  have HL := hide (left_any a q t hlow ht x i hi hx _ HC.out)
  rw [es] at HL ⊢
  clear es hch
  go_enter Tryz.func26, Tryz.ntmps26
  go_wp2_with fail
  refine HL.out.mono ?_
  rintro e w1 ⟨rfl, hb1⟩
  dsimp only [F.agg]
  have hB : Below (w.heap.size + 1) (w.alloc (.cells #[.string ⟨#[]⟩, .float .f64 0, .string ⟨#[]⟩, .slice none 0 0, .slice none 0 0, .bool false, .string ⟨#[]⟩, .int .u8 0, .pointer none, .pointer none] 57)) w1 := hb1.mono (by simp)
  obtain ⟨hc, hf, hz⟩ := own_cells hB
  have hbel : Below w.heap.size w w1 := (Below.alloc (Below.refl _ _) (Nat.le_refl _) _).trans (hB.mono (by omega))
  clear hB hb1
  go_wp2_with fail
  refine bodyPost_ret (v := F.agg ⟨0, s, false, ⟨#[]⟩, 2⟩) ?_ rfl ⟨rfl, ?_⟩
  · simp [results, Tryz.results26, go_sem, F.agg, hc]
  · (repeat' (first | (with_reducible exact Below.refl _ _) | (with_reducible assumption) | (with_reducible refine Below.setCell ?_ ?_ _) | (with_reducible refine Below.alloc ?_ ?_ _) | (with_reducible refine Below.drew ?_) | (with_reducible refine below_drewN ?_ _) | (with_reducible refine Below.trans ?_ (Below.mono (by assumption) ?_)) | (simp <;> omega) | omega))
set_option maxRecDepth 100000 in
set_option maxHeartbeats 1000000 in
theorem doorLEFT_any (t : ByteArray) (hlow : Low t) (ht : t.size ≤ 1000) (x i : Nat) (hi : i ≤ t.size) (hx : Is x i 0) (A : Option Addr) (c : Nat) (w : World) (hr : Rd w w.heap.size 4 A 2 (cellsI [⟨2, 0, t⟩, ⟨1, x, ⟨#[]⟩⟩])) :
    Calls Tryz.prog 18 #[.slice A 2 c] w fun e w' => e = .returned (I.agg' ⟨2, 0, t.extract 0 i⟩) ∧ Below w.heap.size w w' := by
  have HR := hide hr
  clear hr
  obtain ⟨s, es⟩ : ∃ s, t.extract 0 i = s := ⟨_, rfl⟩
  have HL := hide (fun a q w hch => LEFT_any a q t hlow ht (numOf x) i hi (is_numOf hx) w hch)
  rw [es] at HL ⊢
  clear es
  go_enter Tryz.func18, Tryz.ntmps18
  go_wp2_with fail
  refine (doorFuncs_any _).mono ?_
  rintro e w1 ⟨⟨a, rfl⟩, hb1⟩
  have hs1 := hb1.size
  have hb1' : Below w.heap.size w w1 := by (repeat' (first | (with_reducible exact Below.refl _ _) | (with_reducible assumption) | (with_reducible refine Below.setCell ?_ ?_ _) | (with_reducible refine Below.alloc ?_ ?_ _) | (with_reducible refine Below.drew ?_) | (with_reducible refine below_drewN ?_ _) | (with_reducible refine Below.trans ?_ (Below.mono (by assumption) ?_)) | (simp <;> omega) | omega))
  go_wp2_with fail
  refine (innerList_any [⟨2, 0, t⟩, ⟨1, x, ⟨#[]⟩⟩] (by
    intro u hu
    simp only [List.mem_cons, List.not_mem_nil, or_false] at hu
    rcases hu with rfl | rfl
    · exact .inr (.inr (.inl rfl))
    · exact .inr (.inl ⟨rfl, is_self hx⟩)) A 2 c (by omega) _ ((HR.out.below hb1').more hb1'.size)).mono ?_
  rintro e w2 ⟨q, rfl, hq, hch, hb2⟩
  have hs2 := hb2.size
  have hmap : ([⟨2, 0, t⟩, ⟨1, x, ⟨#[]⟩⟩] : List I).map argOf = [⟨0, t, false, ⟨#[]⟩, 2⟩, ⟨numOf x, ⟨#[]⟩, false, ⟨#[]⟩, 1⟩] := by simp [argOf]
  rw [hmap] at hch
  have HC := hide hch
  clear hch hmap
  go_wp2_with fail
  refine (HL.out a q _ HC.out).mono ?_
  rintro e w3 ⟨rfl, hb3⟩
  have hs3 := hb3.size
  go_wp2_with fail
  refine (doorArg_any ⟨0, s, false, ⟨#[]⟩, 2⟩ (.inr (.inl rfl)) _).mono ?_
  rintro e w4 ⟨rfl, hb4⟩
  have hs4 := hb4.size
  have k1 : w.heap.size + 1 ≤ w1.heap.size := by have := hb1.size; simpa using this
  have hp1 : Below (w.heap.size + 1) (w.alloc (.cells #[.int .i64 0, .float .f64 0, .string ⟨#[]⟩, .slice none 0 0] 46)) w1 := hb1.mono (by simp)
  have hb := ((hp1.trans (hb2.mono k1)).trans (hb3.mono (by omega))).trans (hb4.mono (by omega))
  obtain ⟨hc, hf, hz⟩ := own_cells hb
  have hb' : Below w.heap.size w w4 := (Below.alloc (Below.refl _ _) (Nat.le_refl _) _).trans (hb.mono (by omega))
  clear hb1 hb2 hb3 hb4 hb HC HR HL
  unfold I.agg'
  go_wp2_with fail
  refine bodyPost_ret (v := I.agg' ⟨2, 0, s⟩) ?_ rfl ⟨rfl, ?_⟩
  · simp [results, Tryz.results18, go_sem, I.agg', valOf, hc]
  · (repeat' (first | (with_reducible exact Below.refl _ _) | (with_reducible assumption) | (with_reducible refine Below.setCell ?_ ?_ _) | (with_reducible refine Below.alloc ?_ ?_ _) | (with_reducible refine Below.drew ?_) | (with_reducible refine below_drewN ?_ _) | (with_reducible refine Below.trans ?_ (Below.mono (by assumption) ?_)) | (simp <;> omega) | omega))
set_option maxRecDepth 100000 in
set_option maxHeartbeats 1000000 in
theorem implLEFT_any (t : ByteArray) (hlow : Low t) (ht : t.size ≤ 1000) (x i : Nat) (hi : i ≤ t.size) (hx : Is x i 0) (A : Option Addr) (c : Nat) (w : World) (hr : Rd w w.heap.size 4 A 2 (cellsI [⟨2, 0, t⟩, ⟨1, x, ⟨#[]⟩⟩])) :
    Calls Tryz.prog 8 #[.slice A 2 c] w fun e w' => e = .returned (I.agg' ⟨2, 0, t.extract 0 i⟩) ∧ Below w.heap.size w w' := by
  have HR := hide hr
  clear hr
  obtain ⟨s, es⟩ : ∃ s, t.extract 0 i = s := ⟨_, rfl⟩
  have HL := hide (doorLEFT_any t hlow ht x i hi hx)
  rw [es] at HL ⊢
  clear es
  go_enter Tryz.func8, Tryz.ntmps8
  go_wp2_with fail
  refine (in_any [⟨2, 0, t⟩, ⟨1, x, ⟨#[]⟩⟩] A 2 c (by omega) _ ((HR.out.alloc (Nat.le_refl _) _).more (by simp))).mono ?_
  rintro e w1 ⟨A1, c1, rfl, hown, hb1⟩
  have hs1 := hb1.size
  have HO := hide (Rd.of_own hown)
  clear hown
  go_wp2_with fail
  refine (HL.out A1 c1 _ HO.out).mono ?_
  rintro e w2 ⟨rfl, hb2⟩
  have hs2 := hb2.size
  unfold I.agg'
  go_wp2_with fail
  refine (out_any _ _ _ _).mono ?_
  rintro e w3 ⟨rfl, hb3⟩
  have hs3 := hb3.size
  have k1 : w.heap.size + 1 ≤ w1.heap.size := by have := hb1.size; simpa using this
  have hp1 : Below (w.heap.size + 1) (w.alloc (.cells #[.int .i64 0, .float .f64 0, .string ⟨#[]⟩, .slice none 0 0] 37)) w1 := hb1.mono (by simp)
  have hb := (hp1.trans (hb2.mono k1)).trans (hb3.mono (by omega))
  obtain ⟨hc, hf, hz⟩ := own_cells hb
  have hb' : Below w.heap.size w w3 := (Below.alloc (Below.refl _ _) (Nat.le_refl _) _).trans (hb.mono (by omega))
  clear hb1 hb2 hb3 hb HO HR HL
  go_wp2_with fail
  refine bodyPost_ret (v := I.agg' ⟨2, 0, s⟩) ?_ rfl ⟨rfl, ?_⟩
  · simp [results, Tryz.results8, go_sem, I.agg', hc]
  · (repeat' (first | (with_reducible exact Below.refl _ _) | (with_reducible assumption) | (with_reducible refine Below.setCell ?_ ?_ _) | (with_reducible refine Below.alloc ?_ ?_ _) | (with_reducible refine Below.drew ?_) | (with_reducible refine below_drewN ?_ _) | (with_reducible refine Below.trans ?_ (Below.mono (by assumption) ?_)) | (simp <;> omega) | omega))
set_option maxRecDepth 100000 in
theorem RIGHT_any (a : Addr) (q : Nat → Nat) (t : ByteArray) (hlow : Low t) (ht : t.size ≤ 1000) (x i : Nat) (hi : i ≤ t.size) (hx : Is x i 0) (w : World) (hch : Chain w 2 q [⟨0, t, false, ⟨#[]⟩, 2⟩, ⟨x, ⟨#[]⟩, false, ⟨#[]⟩, 1⟩]) :
    Calls Tryz.prog 28 #[.pointer (some a), .pointer (some ⟨q 0, 0, none⟩)] w fun e w' => e = .returned (F.agg ⟨0, t.extract (t.size - i) t.size, false, ⟨#[]⟩, 2⟩) ∧ Below w.heap.size w w' := by
  have HC := hide (hch.below (Below.alloc (Below.refl w.heap.size w) (Nat.le_refl _) (.cells #[.string ⟨#[]⟩, .float .f64 0, .string ⟨#[]⟩, .slice none 0 0, .slice none 0 0, .bool false, .string ⟨#[]⟩, .int .u8 0, .pointer none, .pointer none] 57)))
  obtain ⟨s, es⟩ : ∃ s, t.extract (t.size - i) t.size = s := ⟨_, rfl⟩
  have HL := hide (right_any a q t hlow ht x i hi hx _ HC.out)
  rw [es] at HL ⊢
  clear es hch
  go_enter Tryz.func28, Tryz.ntmps28
  go_wp2_with fail
  refine HL.out.mono ?_
  rintro e w1 ⟨rfl, hb1⟩
  dsimp only [F.agg]
  have hB : Below (w.heap.size + 1) (w.alloc (.cells #[.string ⟨#[]⟩, .float .f64 0, .string ⟨#[]⟩, .slice none 0 0, .slice none 0 0, .bool false, .string ⟨#[]⟩, .int .u8 0, .pointer none, .pointer none] 57)) w1 := hb1.mono (by simp)
  obtain ⟨hc, hf, hz⟩ := own_cells hB
  have hbel : Below w.heap.size w w1 := (Below.alloc (Below.refl _ _) (Nat.le_refl _) _).trans (hB.mono (by omega))
  clear hB hb1
  go_wp2_with fail
  refine bodyPost_ret (v := F.agg ⟨0, s, false, ⟨#[]⟩, 2⟩) ?_ rfl ⟨rfl, ?_⟩
  · simp [results, Tryz.results28, go_sem, F.agg, hc]
  · (repeat' (first | (with_reducible exact Below.refl _ _) | (with_reducible assumption) | (with_reducible refine Below.setCell ?_ ?_ _) | (with_reducible refine Below.alloc ?_ ?_ _) | (with_reducible refine Below.drew ?_) | (with_reducible refine below_drewN ?_ _) | (with_reducible refine Below.trans ?_ (Below.mono (by assumption) ?_)) | (simp <;> omega) | omega))
set_option maxRecDepth 100000 in
set_option maxHeartbeats 1000000 in
theorem doorRIGHT_any (t : ByteArray) (hlow : Low t) (ht : t.size ≤ 1000) (x i : Nat) (hi : i ≤ t.size) (hx : Is x i 0) (A : Option Addr) (c : Nat) (w : World) (hr : Rd w w.heap.size 4 A 2 (cellsI [⟨2, 0, t⟩, ⟨1, x, ⟨#[]⟩⟩])) :
    Calls Tryz.prog 21 #[.slice A 2 c] w fun e w' => e = .returned (I.agg' ⟨2, 0, t.extract (t.size - i) t.size⟩) ∧ Below w.heap.size w w' := by
  have HR := hide hr
  clear hr
  obtain ⟨s, es⟩ : ∃ s, t.extract (t.size - i) t.size = s := ⟨_, rfl⟩
  have HL := hide (fun a q w hch => RIGHT_any a q t hlow ht (numOf x) i hi (is_numOf hx) w hch)
  rw [es] at HL ⊢
  clear es
  go_enter Tryz.func21, Tryz.ntmps21
  go_wp2_with fail
  refine (doorFuncs_any _).mono ?_
  rintro e w1 ⟨⟨a, rfl⟩, hb1⟩
  have hs1 := hb1.size
  have hb1' : Below w.heap.size w w1 := by (repeat' (first | (with_reducible exact Below.refl _ _) | (with_reducible assumption) | (with_reducible refine Below.setCell ?_ ?_ _) | (with_reducible refine Below.alloc ?_ ?_ _) | (with_reducible refine Below.drew ?_) | (with_reducible refine below_drewN ?_ _) | (with_reducible refine Below.trans ?_ (Below.mono (by assumption) ?_)) | (simp <;> omega) | omega))
  go_wp2_with fail
  refine (innerList_any [⟨2, 0, t⟩, ⟨1, x, ⟨#[]⟩⟩] (by
    intro u hu
    simp only [List.mem_cons, List.not_mem_nil, or_false] at hu
    rcases hu with rfl | rfl
    · exact .inr (.inr (.inl rfl))
    · exact .inr (.inl ⟨rfl, is_self hx⟩)) A 2 c (by omega) _ ((HR.out.below hb1').more hb1'.size)).mono ?_
  rintro e w2 ⟨q, rfl, hq, hch, hb2⟩
  have hs2 := hb2.size
  have hmap : ([⟨2, 0, t⟩, ⟨1, x, ⟨#[]⟩⟩] : List I).map argOf = [⟨0, t, false, ⟨#[]⟩, 2⟩, ⟨numOf x, ⟨#[]⟩, false, ⟨#[]⟩, 1⟩] := by simp [argOf]
  rw [hmap] at hch
  have HC := hide hch
  clear hch hmap
  go_wp2_with fail
  refine (HL.out a q _ HC.out).mono ?_
  rintro e w3 ⟨rfl, hb3⟩
  have hs3 := hb3.size
  go_wp2_with fail
  refine (doorArg_any ⟨0, s, false, ⟨#[]⟩, 2⟩ (.inr (.inl rfl)) _).mono ?_
  rintro e w4 ⟨rfl, hb4⟩
  have hs4 := hb4.size
  have k1 : w.heap.size + 1 ≤ w1.heap.size := by have := hb1.size; simpa using this
  have hp1 : Below (w.heap.size + 1) (w.alloc (.cells #[.int .i64 0, .float .f64 0, .string ⟨#[]⟩, .slice none 0 0] 46)) w1 := hb1.mono (by simp)
  have hb := ((hp1.trans (hb2.mono k1)).trans (hb3.mono (by omega))).trans (hb4.mono (by omega))
  obtain ⟨hc, hf, hz⟩ := own_cells hb
  have hb' : Below w.heap.size w w4 := (Below.alloc (Below.refl _ _) (Nat.le_refl _) _).trans (hb.mono (by omega))
  clear hb1 hb2 hb3 hb4 hb HC HR HL
  unfold I.agg'
  go_wp2_with fail
  refine bodyPost_ret (v := I.agg' ⟨2, 0, s⟩) ?_ rfl ⟨rfl, ?_⟩
  · simp [results, Tryz.results21, go_sem, I.agg', valOf, hc]
  · (repeat' (first | (with_reducible exact Below.refl _ _) | (with_reducible assumption) | (with_reducible refine Below.setCell ?_ ?_ _) | (with_reducible refine Below.alloc ?_ ?_ _) | (with_reducible refine Below.drew ?_) | (with_reducible refine below_drewN ?_ _) | (with_reducible refine Below.trans ?_ (Below.mono (by assumption) ?_)) | (simp <;> omega) | omega))
set_option maxRecDepth 100000 in
set_option maxHeartbeats 1000000 in
theorem implRIGHT_any (t : ByteArray) (hlow : Low t) (ht : t.size ≤ 1000) (x i : Nat) (hi : i ≤ t.size) (hx : Is x i 0) (A : Option Addr) (c : Nat) (w : World) (hr : Rd w w.heap.size 4 A 2 (cellsI [⟨2, 0, t⟩, ⟨1, x, ⟨#[]⟩⟩])) :
    Calls Tryz.prog 10 #[.slice A 2 c] w fun e w' => e = .returned (I.agg' ⟨2, 0, t.extract (t.size - i) t.size⟩) ∧ Below w.heap.size w w' := by
  have HR := hide hr
  clear hr
  obtain ⟨s, es⟩ : ∃ s, t.extract (t.size - i) t.size = s := ⟨_, rfl⟩
  have HL := hide (doorRIGHT_any t hlow ht x i hi hx)
  rw [es] at HL ⊢
  clear es
  go_enter Tryz.func10, Tryz.ntmps10
  go_wp2_with fail
  refine (in_any [⟨2, 0, t⟩, ⟨1, x, ⟨#[]⟩⟩] A 2 c (by omega) _ ((HR.out.alloc (Nat.le_refl _) _).more (by simp))).mono ?_
  rintro e w1 ⟨A1, c1, rfl, hown, hb1⟩
  have hs1 := hb1.size
  have HO := hide (Rd.of_own hown)
  clear hown
  go_wp2_with fail
  refine (HL.out A1 c1 _ HO.out).mono ?_
  rintro e w2 ⟨rfl, hb2⟩
  have hs2 := hb2.size
  unfold I.agg'
  go_wp2_with fail
  refine (out_any _ _ _ _).mono ?_
  rintro e w3 ⟨rfl, hb3⟩
  have hs3 := hb3.size
  have k1 : w.heap.size + 1 ≤ w1.heap.size := by have := hb1.size; simpa using this
  have hp1 : Below (w.heap.size + 1) (w.alloc (.cells #[.int .i64 0, .float .f64 0, .string ⟨#[]⟩, .slice none 0 0] 37)) w1 := hb1.mono (by simp)
  have hb := (hp1.trans (hb2.mono k1)).trans (hb3.mono (by omega))
  obtain ⟨hc, hf, hz⟩ := own_cells hb
  have hb' : Below w.heap.size w w3 := (Below.alloc (Below.refl _ _) (Nat.le_refl _) _).trans (hb.mono (by omega))
  clear hb1 hb2 hb3 hb HO HR HL
  go_wp2_with fail
  refine bodyPost_ret (v := I.agg' ⟨2, 0, s⟩) ?_ rfl ⟨rfl, ?_⟩
  · simp [results, Tryz.results10, go_sem, I.agg', hc]
  · (repeat' (first | (with_reducible exact Below.refl _ _) | (with_reducible assumption) | (with_reducible refine Below.setCell ?_ ?_ _) | (with_reducible refine Below.alloc ?_ ?_ _) | (with_reducible refine Below.drew ?_) | (with_reducible refine below_drewN ?_ _) | (with_reducible refine Below.trans ?_ (Below.mono (by assumption) ?_)) | (simp <;> omega) | omega))
set_option maxRecDepth 100000 in
theorem MID_any (a : Addr) (q : Nat → Nat) (t : ByteArray) (hlow : Low t) (ht : t.size ≤ 1000) (x y i k : Nat) (hi : i + k ≤ t.size) (hx : Is x ((i : Int) + 1) 0) (hy : Is y k 0) (w : World) (hch : Chain w 3 q [⟨0, t, false, ⟨#[]⟩, 2⟩, ⟨x, ⟨#[]⟩, false, ⟨#[]⟩, 1⟩, ⟨y, ⟨#[]⟩, false, ⟨#[]⟩, 1⟩]) :
    Calls Tryz.prog 29 #[.pointer (some a), .pointer (some ⟨q 0, 0, none⟩)] w fun e w' => e = .returned (F.agg ⟨0, t.extract i (i + k), false, ⟨#[]⟩, 2⟩) ∧ Below w.heap.size w w' := by
  have HC := hide (hch.below (Below.alloc (Below.refl w.heap.size w) (Nat.le_refl _) (.cells #[.string ⟨#[]⟩, .float .f64 0, .string ⟨#[]⟩, .slice none 0 0, .slice none 0 0, .bool false, .string ⟨#[]⟩, .int .u8 0, .pointer none, .pointer none] 57)))
  obtain ⟨s, es⟩ : ∃ s, t.extract i (i + k) = s := ⟨_, rfl⟩
  have HL := hide (mid_any a q t hlow ht x y i k hi hx hy _ HC.out)
  rw [es] at HL ⊢
  clear es hch
  go_enter Tryz.func29, Tryz.ntmps29
  go_wp2_with fail
  refine HL.out.mono ?_
  rintro e w1 ⟨rfl, hb1⟩
  dsimp only [F.agg]
  have hB : Below (w.heap.size + 1) (w.alloc (.cells #[.string ⟨#[]⟩, .float .f64 0, .string ⟨#[]⟩, .slice none 0 0, .slice none 0 0, .bool false, .string ⟨#[]⟩, .int .u8 0, .pointer none, .pointer none] 57)) w1 := hb1.mono (by simp)
  obtain ⟨hc, hf, hz⟩ := own_cells hB
  have hbel : Below w.heap.size w w1 := (Below.alloc (Below.refl _ _) (Nat.le_refl _) _).trans (hB.mono (by omega))
  clear hB hb1
  go_wp2_with fail
  refine bodyPost_ret (v := F.agg ⟨0, s, false, ⟨#[]⟩, 2⟩) ?_ rfl ⟨rfl, ?_⟩
  · simp [results, Tryz.results29, go_sem, F.agg, hc]
  · (repeat' (first | (with_reducible exact Below.refl _ _) | (with_reducible assumption) | (with_reducible refine Below.setCell ?_ ?_ _) | (with_reducible refine Below.alloc ?_ ?_ _) | (with_reducible refine Below.drew ?_) | (with_reducible refine below_drewN ?_ _) | (with_reducible refine Below.trans ?_ (Below.mono (by assumption) ?_)) | (simp <;> omega) | omega))
set_option maxRecDepth 100000 in
set_option maxHeartbeats 1000000 in
theorem doorMID_any (t : ByteArray) (hlow : Low t) (ht : t.size ≤ 1000) (x y i k : Nat) (hi : i + k ≤ t.size) (hx : Is x ((i : Int) + 1) 0) (hy : Is y k 0) (A : Option Addr) (c : Nat) (w : World) (hr : Rd w w.heap.size 4 A 3 (cellsI [⟨2, 0, t⟩, ⟨1, x, ⟨#[]⟩⟩, ⟨1, y, ⟨#[]⟩⟩])) :
    Calls Tryz.prog 22 #[.slice A 3 c] w fun e w' => e = .returned (I.agg' ⟨2, 0, t.extract i (i + k)⟩) ∧ Below w.heap.size w w' := by
  have HR := hide hr
  clear hr
  obtain ⟨s, es⟩ : ∃ s, t.extract i (i + k) = s := ⟨_, rfl⟩
  have HL := hide (fun a q w hch => MID_any a q t hlow ht (numOf x) (numOf y) i k hi (is_numOf hx) (is_numOf hy) w hch)
  rw [es] at HL ⊢
  clear es
  go_enter Tryz.func22, Tryz.ntmps22
  go_wp2_with fail
  refine (doorFuncs_any _).mono ?_
  rintro e w1 ⟨⟨a, rfl⟩, hb1⟩
  have hs1 := hb1.size
  have hb1' : Below w.heap.size w w1 := by (repeat' (first | (with_reducible exact Below.refl _ _) | (with_reducible assumption) | (with_reducible refine Below.setCell ?_ ?_ _) | (with_reducible refine Below.alloc ?_ ?_ _) | (with_reducible refine Below.drew ?_) | (with_reducible refine below_drewN ?_ _) | (with_reducible refine Below.trans ?_ (Below.mono (by assumption) ?_)) | (simp <;> omega) | omega))
  go_wp2_with fail
  refine (innerList_any [⟨2, 0, t⟩, ⟨1, x, ⟨#[]⟩⟩, ⟨1, y, ⟨#[]⟩⟩] (by
    intro u hu
    simp only [List.mem_cons, List.not_mem_nil, or_false] at hu
    rcases hu with rfl | rfl | rfl
    · exact .inr (.inr (.inl rfl))
    · exact .inr (.inl ⟨rfl, is_self hx⟩)
    · exact .inr (.inl ⟨rfl, is_self hy⟩)) A 3 c (by omega) _ ((HR.out.below hb1').more hb1'.size)).mono ?_
  rintro e w2 ⟨q, rfl, hq, hch, hb2⟩
  have hs2 := hb2.size
  have hmap : ([⟨2, 0, t⟩, ⟨1, x, ⟨#[]⟩⟩, ⟨1, y, ⟨#[]⟩⟩] : List I).map argOf = [⟨0, t, false, ⟨#[]⟩, 2⟩, ⟨numOf x, ⟨#[]⟩, false, ⟨#[]⟩, 1⟩, ⟨numOf y, ⟨#[]⟩, false, ⟨#[]⟩, 1⟩] := by simp [argOf]
  rw [hmap] at hch
  have HC := hide hch
  clear hch hmap
  go_wp2_with fail
  refine (HL.out a q _ HC.out).mono ?_
  rintro e w3 ⟨rfl, hb3⟩
  have hs3 := hb3.size
  go_wp2_with fail
  refine (doorArg_any ⟨0, s, false, ⟨#[]⟩, 2⟩ (.inr (.inl rfl)) _).mono ?_
  rintro e w4 ⟨rfl, hb4⟩
  have hs4 := hb4.size
  have k1 : w.heap.size + 1 ≤ w1.heap.size := by have := hb1.size; simpa using this
  have hp1 : Below (w.heap.size + 1) (w.alloc (.cells #[.int .i64 0, .float .f64 0, .string ⟨#[]⟩, .slice none 0 0] 46)) w1 := hb1.mono (by simp)
  have hb := ((hp1.trans (hb2.mono k1)).trans (hb3.mono (by omega))).trans (hb4.mono (by omega))
  obtain ⟨hc, hf, hz⟩ := own_cells hb
  have hb' : Below w.heap.size w w4 := (Below.alloc (Below.refl _ _) (Nat.le_refl _) _).trans (hb.mono (by omega))
  clear hb1 hb2 hb3 hb4 hb HC HR HL
  unfold I.agg'
  go_wp2_with fail
  refine bodyPost_ret (v := I.agg' ⟨2, 0, s⟩) ?_ rfl ⟨rfl, ?_⟩
  · simp [results, Tryz.results22, go_sem, I.agg', valOf, hc]
  · (repeat' (first | (with_reducible exact Below.refl _ _) | (with_reducible assumption) | (with_reducible refine Below.setCell ?_ ?_ _) | (with_reducible refine Below.alloc ?_ ?_ _) | (with_reducible refine Below.drew ?_) | (with_reducible refine below_drewN ?_ _) | (with_reducible refine Below.trans ?_ (Below.mono (by assumption) ?_)) | (simp <;> omega) | omega))
set_option maxRecDepth 100000 in
set_option maxHeartbeats 1000000 in
theorem implMID_any (t : ByteArray) (hlow : Low t) (ht : t.size ≤ 1000) (x y i k : Nat) (hi : i + k ≤ t.size) (hx : Is x ((i : Int) + 1) 0) (hy : Is y k 0) (A : Option Addr) (c : Nat) (w : World) (hr : Rd w w.heap.size 4 A 3 (cellsI [⟨2, 0, t⟩, ⟨1, x, ⟨#[]⟩⟩, ⟨1, y, ⟨#[]⟩⟩])) :
    Calls Tryz.prog 11 #[.slice A 3 c] w fun e w' => e = .returned (I.agg' ⟨2, 0, t.extract i (i + k)⟩) ∧ Below w.heap.size w w' := by
  have HR := hide hr
  clear hr
  obtain ⟨s, es⟩ : ∃ s, t.extract i (i + k) = s := ⟨_, rfl⟩
  have HL := hide (doorMID_any t hlow ht x y i k hi hx hy)
  rw [es] at HL ⊢
  clear es
  go_enter Tryz.func11, Tryz.ntmps11
  go_wp2_with fail
  refine (in_any [⟨2, 0, t⟩, ⟨1, x, ⟨#[]⟩⟩, ⟨1, y, ⟨#[]⟩⟩] A 3 c (by omega) _ ((HR.out.alloc (Nat.le_refl _) _).more (by simp))).mono ?_
  rintro e w1 ⟨A1, c1, rfl, hown, hb1⟩
  have hs1 := hb1.size
  have HO := hide (Rd.of_own hown)
  clear hown
  go_wp2_with fail
  refine (HL.out A1 c1 _ HO.out).mono ?_
  rintro e w2 ⟨rfl, hb2⟩
  have hs2 := hb2.size
  unfold I.agg'
  go_wp2_with fail
  refine (out_any _ _ _ _).mono ?_
  rintro e w3 ⟨rfl, hb3⟩
  have hs3 := hb3.size
  have k1 : w.heap.size + 1 ≤ w1.heap.size := by have := hb1.size; simpa using this
  have hp1 : Below (w.heap.size + 1) (w.alloc (.cells #[.int .i64 0, .float .f64 0, .string ⟨#[]⟩, .slice none 0 0] 37)) w1 := hb1.mono (by simp)
  have hb := (hp1.trans (hb2.mono k1)).trans (hb3.mono (by omega))
  obtain ⟨hc, hf, hz⟩ := own_cells hb
  have hb' : Below w.heap.size w w3 := (Below.alloc (Below.refl _ _) (Nat.le_refl _) _).trans (hb.mono (by omega))
  clear hb1 hb2 hb3 hb HO HR HL
  go_wp2_with fail
  refine bodyPost_ret (v := I.agg' ⟨2, 0, s⟩) ?_ rfl ⟨rfl, ?_⟩
  · simp [results, Tryz.results11, go_sem, I.agg', hc]
  · (repeat' (first | (with_reducible exact Below.refl _ _) | (with_reducible assumption) | (with_reducible refine Below.setCell ?_ ?_ _) | (with_reducible refine Below.alloc ?_ ?_ _) | (with_reducible refine Below.drew ?_) | (with_reducible refine below_drewN ?_ _) | (with_reducible refine Below.trans ?_ (Below.mono (by assumption) ?_)) | (simp <;> omega) | omega))
end Go.Proofs.YtoglgdapaonioaaGreatDoor
