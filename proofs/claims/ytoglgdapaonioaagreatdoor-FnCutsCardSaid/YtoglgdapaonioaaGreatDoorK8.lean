/- Contracts of laws.said of LEFT, RIGHT and MID: the text that the program answers. -/
import Derived.Test.YtoglgdapaonioaaGreatDoorK7
import Derived.Test.YtoglgdapaonioaaGreatDoorL3
import Derived.Test.YtoglgdapaonioaaGreatDoorMk
namespace Go.Proofs.YtoglgdapaonioaaGreatDoor
open Go Go.RowKit Ieee Fl
attribute [local go_sem] run_store_float
theorem is_whole (n : Int) (h : n.natAbs ≤ 99999999999) : Is (xOf ⟨1, n, 1, ⟨#[]⟩⟩) n 0 := by
  obtain ⟨r, hr, hi⟩ := is_div (p := 0) (by omega) (is_int n (by omega)) (by omega)
  have hr' : double.div (floatOfInt .f64 n) (floatOfInt .f64 1) = some r := hr
  have e : xOf ⟨1, n, 1, ⟨#[]⟩⟩ = r := by simp [xOf, hr']
  rw [e]
  exact hi
theorem ok_whole (n : Int) (h : n.natAbs ≤ 99999999999) : OkV ⟨1, n, 1, ⟨#[]⟩⟩ := ⟨by simp, fun _ => ⟨by simp only; omega, 0, by omega, rfl⟩⟩
set_option maxRecDepth 100000 in
set_option maxHeartbeats 1000000 in
theorem saidLEFT_any (t : ByteArray) (hlow : Low t) (ht : t.size ≤ 1000) (i : Nat) (hi : i ≤ t.size) (A : Option Addr) (c : Nat) (w : World) (hr : Rd w w.heap.size 5 A 2 (cellsV [⟨2, 0, 0, t⟩, ⟨1, i, 1, ⟨#[]⟩⟩])) :
    Calls Tryz.prog 7 #[.func (.func 8) #[] #[], .slice A 2 c] w fun e w' => e = .returned (.agg #[.int .i64 2, .int .i64 0, .int .i64 0, .string (t.extract 0 i), .slice none 0 0]) ∧ Below w.heap.size w w' := by
  have hhx := is_whole (i : Int) (by omega)
  obtain ⟨x, ex⟩ : ∃ x, xOf ⟨1, (i : Int), 1, ⟨#[]⟩⟩ = x := ⟨_, rfl⟩
  rw [ex] at hhx
  have hmap : ([⟨2, 0, 0, t⟩, ⟨1, i, 1, ⟨#[]⟩⟩] : List V).map ofV = [⟨2, 0, t⟩, ⟨1, x, ⟨#[]⟩⟩] := by
    simp only [List.map_cons, List.map_nil, ofV, ex]
    rfl
  have HA := hide (fun w hr => all_any [⟨2, 0, 0, t⟩, ⟨1, i, 1, ⟨#[]⟩⟩] (by
    intro u hu
    simp only [List.mem_cons, List.not_mem_nil, or_false] at hu
    rcases hu with rfl | rfl
    · exact ⟨by simp, by simp⟩
    · exact ok_whole _ (by omega)) A 2 c (by omega) w hr)
  rw [hmap] at HA
  obtain ⟨s, es⟩ : ∃ s, t.extract 0 i = s := ⟨_, rfl⟩
  have HL := hide (implLEFT_any t hlow ht x i hi hhx)
  rw [es] at HL ⊢
  have HR := hide hr
  clear es hr hmap ex hhx
  go_enter Tryz.func7, Tryz.ntmps7
  go_wp2_with fail
  refine (HA.out _ ((HR.out.alloc (Nat.le_refl _) _).more (by simp))).mono ?_
  rintro e w1 ⟨A1, c1, rfl, hown, hb1⟩
  have hs1 : w.heap.size + 1 ≤ w1.heap.size := by have := hb1.size; simpa using this
  have HO := hide (Rd.of_own hown)
  have hp1 : Below (w.heap.size + 1) (w.alloc (.cells #[.int .i64 0, .int .i64 0, .int .i64 0, .string ⟨#[]⟩, .slice none 0 0] 26)) w1 := hb1.mono (by simp)
  clear hown hb1
  go_wp2_with fail
  refine (HL.out A1 c1 _ HO.out).mono ?_
  rintro e w2 ⟨rfl, hb2⟩
  have hs2 := hb2.size
  have hp2 := hp1.trans (hb2.mono hs1)
  clear hp1 hb2 HL HA HO HR
  unfold I.agg'
  go_wp2_with fail
  refine (str_any s _).mono ?_
  rintro e w3 ⟨rfl, hb3⟩
  have hB := (hp2.alloc (by omega) _).trans (hb3.mono (by simp; omega))
  obtain ⟨hc, hf, hz⟩ := own_cells hB
  have hb' : Below w.heap.size w w3 := (Below.alloc (Below.refl _ _) (Nat.le_refl _) _).trans (hB.mono (by omega))
  clear hb3 hB hp2
  go_wp2_with fail
  refine bodyPost_ret (v := .agg #[.int .i64 2, .int .i64 0, .int .i64 0, .string s, .slice none 0 0]) ?_ rfl ⟨rfl, ?_⟩
  · simp [results, Tryz.results7, go_sem, hc]
  · (repeat' (first | (with_reducible exact Below.refl _ _) | (with_reducible assumption) | (with_reducible refine Below.setCell ?_ ?_ _) | (with_reducible refine Below.alloc ?_ ?_ _) | (with_reducible refine Below.drew ?_) | (with_reducible refine below_drewN ?_ _) | (with_reducible refine Below.trans ?_ (Below.mono (by assumption) ?_)) | (simp <;> omega) | omega))
set_option maxRecDepth 100000 in
set_option maxHeartbeats 1000000 in
theorem saidRIGHT_any (t : ByteArray) (hlow : Low t) (ht : t.size ≤ 1000) (i : Nat) (hi : i ≤ t.size) (A : Option Addr) (c : Nat) (w : World) (hr : Rd w w.heap.size 5 A 2 (cellsV [⟨2, 0, 0, t⟩, ⟨1, i, 1, ⟨#[]⟩⟩])) :
    Calls Tryz.prog 7 #[.func (.func 10) #[] #[], .slice A 2 c] w fun e w' => e = .returned (.agg #[.int .i64 2, .int .i64 0, .int .i64 0, .string (t.extract (t.size - i) t.size), .slice none 0 0]) ∧ Below w.heap.size w w' := by
  have hhx := is_whole (i : Int) (by omega)
  obtain ⟨x, ex⟩ : ∃ x, xOf ⟨1, (i : Int), 1, ⟨#[]⟩⟩ = x := ⟨_, rfl⟩
  rw [ex] at hhx
  have hmap : ([⟨2, 0, 0, t⟩, ⟨1, i, 1, ⟨#[]⟩⟩] : List V).map ofV = [⟨2, 0, t⟩, ⟨1, x, ⟨#[]⟩⟩] := by
    simp only [List.map_cons, List.map_nil, ofV, ex]
    rfl
  have HA := hide (fun w hr => all_any [⟨2, 0, 0, t⟩, ⟨1, i, 1, ⟨#[]⟩⟩] (by
    intro u hu
    simp only [List.mem_cons, List.not_mem_nil, or_false] at hu
    rcases hu with rfl | rfl
    · exact ⟨by simp, by simp⟩
    · exact ok_whole _ (by omega)) A 2 c (by omega) w hr)
  rw [hmap] at HA
  obtain ⟨s, es⟩ : ∃ s, t.extract (t.size - i) t.size = s := ⟨_, rfl⟩
  have HL := hide (implRIGHT_any t hlow ht x i hi hhx)
  rw [es] at HL ⊢
  have HR := hide hr
  clear es hr hmap ex hhx
  go_enter Tryz.func7, Tryz.ntmps7
  go_wp2_with fail
  refine (HA.out _ ((HR.out.alloc (Nat.le_refl _) _).more (by simp))).mono ?_
  rintro e w1 ⟨A1, c1, rfl, hown, hb1⟩
  have hs1 : w.heap.size + 1 ≤ w1.heap.size := by have := hb1.size; simpa using this
  have HO := hide (Rd.of_own hown)
  have hp1 : Below (w.heap.size + 1) (w.alloc (.cells #[.int .i64 0, .int .i64 0, .int .i64 0, .string ⟨#[]⟩, .slice none 0 0] 26)) w1 := hb1.mono (by simp)
  clear hown hb1
  go_wp2_with fail
  refine (HL.out A1 c1 _ HO.out).mono ?_
  rintro e w2 ⟨rfl, hb2⟩
  have hs2 := hb2.size
  have hp2 := hp1.trans (hb2.mono hs1)
  clear hp1 hb2 HL HA HO HR
  unfold I.agg'
  go_wp2_with fail
  refine (str_any s _).mono ?_
  rintro e w3 ⟨rfl, hb3⟩
  have hB := (hp2.alloc (by omega) _).trans (hb3.mono (by simp; omega))
  obtain ⟨hc, hf, hz⟩ := own_cells hB
  have hb' : Below w.heap.size w w3 := (Below.alloc (Below.refl _ _) (Nat.le_refl _) _).trans (hB.mono (by omega))
  clear hb3 hB hp2
  go_wp2_with fail
  refine bodyPost_ret (v := .agg #[.int .i64 2, .int .i64 0, .int .i64 0, .string s, .slice none 0 0]) ?_ rfl ⟨rfl, ?_⟩
  · simp [results, Tryz.results7, go_sem, hc]
  · (repeat' (first | (with_reducible exact Below.refl _ _) | (with_reducible assumption) | (with_reducible refine Below.setCell ?_ ?_ _) | (with_reducible refine Below.alloc ?_ ?_ _) | (with_reducible refine Below.drew ?_) | (with_reducible refine below_drewN ?_ _) | (with_reducible refine Below.trans ?_ (Below.mono (by assumption) ?_)) | (simp <;> omega) | omega))
set_option maxRecDepth 100000 in
set_option maxHeartbeats 1000000 in
theorem saidMID_any (t : ByteArray) (hlow : Low t) (ht : t.size ≤ 1000) (i k : Nat) (hi : i + k ≤ t.size) (A : Option Addr) (c : Nat) (w : World) (hr : Rd w w.heap.size 5 A 3 (cellsV [⟨2, 0, 0, t⟩, ⟨1, (i : Int) + 1, 1, ⟨#[]⟩⟩, ⟨1, k, 1, ⟨#[]⟩⟩])) :
    Calls Tryz.prog 7 #[.func (.func 11) #[] #[], .slice A 3 c] w fun e w' => e = .returned (.agg #[.int .i64 2, .int .i64 0, .int .i64 0, .string (t.extract i (i + k)), .slice none 0 0]) ∧ Below w.heap.size w w' := by
  have hhx := is_whole ((i : Int) + 1) (by omega)
  obtain ⟨x, ex⟩ : ∃ x, xOf ⟨1, ((i : Int) + 1), 1, ⟨#[]⟩⟩ = x := ⟨_, rfl⟩
  rw [ex] at hhx
  have hhy := is_whole (k : Int) (by omega)
  obtain ⟨y, ey⟩ : ∃ y, xOf ⟨1, (k : Int), 1, ⟨#[]⟩⟩ = y := ⟨_, rfl⟩
  rw [ey] at hhy
  have hmap : ([⟨2, 0, 0, t⟩, ⟨1, (i : Int) + 1, 1, ⟨#[]⟩⟩, ⟨1, k, 1, ⟨#[]⟩⟩] : List V).map ofV = [⟨2, 0, t⟩, ⟨1, x, ⟨#[]⟩⟩, ⟨1, y, ⟨#[]⟩⟩] := by
    simp only [List.map_cons, List.map_nil, ofV, ex, ey]
    rfl
  have HA := hide (fun w hr => all_any [⟨2, 0, 0, t⟩, ⟨1, (i : Int) + 1, 1, ⟨#[]⟩⟩, ⟨1, k, 1, ⟨#[]⟩⟩] (by
    intro u hu
    simp only [List.mem_cons, List.not_mem_nil, or_false] at hu
    rcases hu with rfl | rfl | rfl
    · exact ⟨by simp, by simp⟩
    · exact ok_whole _ (by omega)
    · exact ok_whole _ (by omega)) A 3 c (by omega) w hr)
  rw [hmap] at HA
  obtain ⟨s, es⟩ : ∃ s, t.extract i (i + k) = s := ⟨_, rfl⟩
  have HL := hide (implMID_any t hlow ht x y i k hi hhx hhy)
  rw [es] at HL ⊢
  have HR := hide hr
  clear es hr hmap ex hhx ey hhy
  go_enter Tryz.func7, Tryz.ntmps7
  go_wp2_with fail
  refine (HA.out _ ((HR.out.alloc (Nat.le_refl _) _).more (by simp))).mono ?_
  rintro e w1 ⟨A1, c1, rfl, hown, hb1⟩
  have hs1 : w.heap.size + 1 ≤ w1.heap.size := by have := hb1.size; simpa using this
  have HO := hide (Rd.of_own hown)
  have hp1 : Below (w.heap.size + 1) (w.alloc (.cells #[.int .i64 0, .int .i64 0, .int .i64 0, .string ⟨#[]⟩, .slice none 0 0] 26)) w1 := hb1.mono (by simp)
  clear hown hb1
  go_wp2_with fail
  refine (HL.out A1 c1 _ HO.out).mono ?_
  rintro e w2 ⟨rfl, hb2⟩
  have hs2 := hb2.size
  have hp2 := hp1.trans (hb2.mono hs1)
  clear hp1 hb2 HL HA HO HR
  unfold I.agg'
  go_wp2_with fail
  refine (str_any s _).mono ?_
  rintro e w3 ⟨rfl, hb3⟩
  have hB := (hp2.alloc (by omega) _).trans (hb3.mono (by simp; omega))
  obtain ⟨hc, hf, hz⟩ := own_cells hB
  have hb' : Below w.heap.size w w3 := (Below.alloc (Below.refl _ _) (Nat.le_refl _) _).trans (hB.mono (by omega))
  clear hb3 hB hp2
  go_wp2_with fail
  refine bodyPost_ret (v := .agg #[.int .i64 2, .int .i64 0, .int .i64 0, .string s, .slice none 0 0]) ?_ rfl ⟨rfl, ?_⟩
  · simp [results, Tryz.results7, go_sem, hc]
  · (repeat' (first | (with_reducible exact Below.refl _ _) | (with_reducible assumption) | (with_reducible refine Below.setCell ?_ ?_ _) | (with_reducible refine Below.alloc ?_ ?_ _) | (with_reducible refine Below.drew ?_) | (with_reducible refine below_drewN ?_ _) | (with_reducible refine Below.trans ?_ (Below.mono (by assumption) ?_)) | (simp <;> omega) | omega))
end Go.Proofs.YtoglgdapaonioaaGreatDoor
