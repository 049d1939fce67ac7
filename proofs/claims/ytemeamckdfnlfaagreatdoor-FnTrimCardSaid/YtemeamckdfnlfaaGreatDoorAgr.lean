/- The law's comparison: laws.agrees of T on one value answers true. -/
import Derived.Test.YtemeamckdfnlfaaGreatDoorD6
namespace Go.Proofs.YtemeamckdfnlfaaGreatDoor
open Go Go.RowKit Ieee Fl
attribute [local go_sem] run_store_float
theorem okI_of (v : V) (hv : OkV v) (hk : v.k = 0 ∨ v.k = 1 ∨ v.k = 2 ∨ v.k = 3 ∨ v.k = 4) : OkI (ofV v) := by
  rcases hk with h | h | h | h | h
  · exact .inl h
  · refine .inr (.inl ⟨h, ?_⟩)
    obtain ⟨hn, p, hp, hd⟩ := hv.2 h
    obtain ⟨r, hr, hi⟩ := is_div hp (is_int v.n hn) hn
    have hr' : double.div (floatOfInt .f64 v.n) (floatOfInt .f64 v.d) = some r := by rw [hd]; exact hr
    have e : (ofV v).x = r := by simp only [ofV, xOf, if_pos h, hr', Option.getD_some]
    rw [e]
    have := order_is hi hi
    rw [show compare v.n v.n = .eq from by simp] at this
    exact this
  · exact .inr (.inr (.inl h))
  · exact .inr (.inr (.inr (.inl h)))
  · exact .inr (.inr (.inr (.inr h)))
theorem final_T (v : V) (hk : v.k = 0 ∨ v.k = 1 ∨ v.k = 2 ∨ v.k = 3 ∨ v.k = 4) : (valOf (tF (argOf (ofV v)))).agg' = .agg #[.int .i64 (tOnly v).k, .float .f64 0, .string (tOnly v).t, .slice none 0 0] ∧ xOf (tOnly v) = 0 ∧ OkV (tOnly v) := by
  obtain ⟨k, n, d, t⟩ := v
  simp only at hk
  rcases hk with rfl | rfl | rfl | rfl | rfl <;> refine ⟨by simp [valOf, tF, argOf, ofV, tOnly, I.agg'], by simp [xOf, tOnly], ?_⟩ <;> simp [OkV, tOnly]
theorem order00 : FloatKind.f64.format.order 0 0 = some .eq := by decide
set_option maxRecDepth 100000 in
set_option maxHeartbeats 2000000 in
theorem agrees_T (v : V) (hv : OkV v) (hk : v.k = 2 ∨ v.k = 4 ∨ v.k = 6 ∨ v.k = 0 ∨ v.k = 1 ∨ v.k = 3) (ht : v.t.size ≤ 1000) (A : Option Addr) (c : Nat) (w : World) (hr : Rd w w.heap.size 5 A 1 (cellsV [v])) :
    Calls Tryz.prog 9 #[.func (.func 10) #[] #[], .string ⟨#[84]⟩, .slice A 1 c] w fun e w' => e = .returned (.bool true) ∧ Below w.heap.size w w' := by
  have HR := hide hr
  clear hr
  go_enter Tryz.func9, Tryz.ntmps9
  go_wp2_with fail
  refine (call_T v hk ht A c _ HR.out).mono ?_
  rintro e w1 ⟨k, n, d, t, hw, rfl, hb1⟩
  have hs1 := hb1.size
  have HW := hide hw
  clear hw
  go_wp2_with fail
  refine (table_any _ _ _ _).mono ?_
  rintro e w2 ⟨rfl, hb2⟩
  have hs2 : w1.heap.size + 2 ≤ w2.heap.size := by have := hb2.size; simpa using this
  have hp2 : Below (w1.heap.size + 2) ((w1.alloc (.cells #[.int .i64 k, .int .i64 n, .int .i64 d, .string t, .slice none 0 0] 27)).alloc (.cells #[.slice A 1 c] 29)) w2 := hb2.mono (by simp)
  have hcell : w2.cell? ⟨w1.heap.size + 1, 0, none⟩ = some (.slice A 1 c) := by
    rw [hp2.cell (p := ⟨w1.heap.size + 1, 0, none⟩) (by simp)]
    simp
  have hb02 : Below w.heap.size w w2 := by (repeat' (first | (with_reducible exact Below.refl _ _) | (with_reducible assumption) | (with_reducible refine Below.setCell ?_ ?_ _) | (with_reducible refine Below.alloc ?_ ?_ _) | (with_reducible refine Below.drew ?_) | (with_reducible refine below_drewN ?_ _) | (with_reducible refine Below.trans ?_ (Below.mono (by assumption) ?_)) | (simp <;> omega) | omega))
  go_wp2_with fail
  refine (doubtful_table [v] (by intro u hu; simp at hu; subst hu; exact hv.1) A 1 c (w1.heap.size + 1) 1 (by omega) _ (by omega) hcell ((HR.out.below hb02).more hb02.size)).mono ?_
  rintro e w3 ⟨rfl, hb3⟩
  have hs3 : w1.heap.size + 2 ≤ w3.heap.size := by have := hb3.size; omega
  have hp3 : Below (w1.heap.size + 1) (w1.alloc (.cells #[.int .i64 k, .int .i64 n, .int .i64 d, .string t, .slice none 0 0] 27)) w3 :=
    ((Below.alloc (Below.refl _ _) (by simp) _).trans (hp2.mono (by omega))).trans (hb3.mono (by omega))
  have hb03 : Below w.heap.size w w3 := hb02.trans (hb3.mono (by omega))
  obtain ⟨hc3, hf3, hz3⟩ := own_cells hp3
  clear hb1 hb2 hp2 hcell hb02 hb3 hp3 hf3
  obtain ⟨o, ho⟩ : ∃ o, unsure [v] = o := ⟨_, rfl⟩
  rw [ho]
  have HO := hide ho
  clear ho
  cases o
  · have hne : v.k ≠ 6 := by
      intro h
      have := HO.out
      simp [unsure, h] at this
    have hk' : v.k = 0 ∨ v.k = 1 ∨ v.k = 2 ∨ v.k = 3 ∨ v.k = 4 := by omega
    have h5 : k ≠ 5 := by
      rcases HW.out with h | h
      · cases h; omega
      · have := (final_T v hk').2.2.1
        rw [← h] at this
        exact this
    have HD := hide (doubtful_one ⟨k, n, d, t⟩ h5)
    clear h5
    go_wp2_with fail
    refine (HD.out _).mono ?_
    rintro e w4 ⟨rfl, hb4⟩
    have hs4 := hb4.size
    obtain ⟨o, ho⟩ : ∃ o, unsure [(⟨k, n, d, t⟩ : V)] = o := ⟨_, rfl⟩
    rw [ho]
    have HO4 := hide ho
    clear ho
    have hc4 : ∀ o, w4.cell? ⟨w1.heap.size, o, none⟩ = (#[.int .i64 k, .int .i64 n, .int .i64 d, .string t, .slice none 0 0] : Array Value)[o]? := fun o => (hb4.cell (p := ⟨w1.heap.size, o, none⟩) hz3).trans (hc3 o)
    have hb04 : Below w.heap.size w w4 := hb03.trans (hb4.mono (by omega))
    cases o
    · have hT : V.mk k n d t = tOnly v := by
        rcases HW.out with h | h
        · have := HO4.out
          rw [h] at this
          simp [unsure] at this
        · exact h
      have hF := final_T v hk'
      rw [← hT] at hF
      have HF := hide hF.1
      have HS := hide (same_any 0 ⟨k, n, d, t⟩ hF.2.2 (by rw [hF.2.1]; exact order00))
      have HA := hide (all_any [v] (by intro u hu; simp at hu; subst hu; exact hv) A 1 c (by omega) w4.drew ((HR.out.below hb04).more hb04.size).drew)
      have HI := hide (implT_any (ofV v) (okI_of v hv hk'))
      have hz4 : w1.heap.size < w4.heap.size := by omega
      clear hT hF HD hc3 HW HR HO HO4 hk hk' hne
      go_wp2_with fail
      go_region_with (first
        | (go_at_call 21; refine HA.out.mono ?_; rintro e w5 ⟨A5, c5, rfl, hown5, hb5⟩; have HR5 := hide (Rd.of_own hown5); clear hown5; have hz5 : w1.heap.size < w5.heap.size := Nat.lt_of_lt_of_le hz4 hb5.size; have hc5 : ∀ o, w5.cell? ⟨w1.heap.size, o, none⟩ = (#[.int .i64 k, .int .i64 n, .int .i64 d, .string t, .slice none 0 0] : Array Value)[o]? := fun o => (hb5.cell (p := ⟨w1.heap.size, o, none⟩) hz4).trans (hc4 o))
        | (go_at_call 10; refine (HI.out A5 c5 _ HR5.out).mono ?_; rintro e w6 ⟨rfl, hb6⟩; rw [HF.out]; have hz6 : w1.heap.size < w6.heap.size := Nat.lt_of_lt_of_le hz5 hb6.size; have hc6 : ∀ o, w6.cell? ⟨w1.heap.size, o, none⟩ = (#[.int .i64 k, .int .i64 n, .int .i64 d, .string t, .slice none 0 0] : Array Value)[o]? := fun o => (hb6.cell (p := ⟨w1.heap.size, o, none⟩) hz5).trans (hc5 o))
        | (go_at_call 20; refine (HS.out _).mono ?_; rintro e w7 ⟨rfl, hb7⟩))
      all_goals
        go_wp2_with fail
        go_ret
        exact ⟨rfl, ((((Below.drew hb04).trans (hb5.mono hb04.size)).trans (hb6.mono (Nat.le_trans hb04.size hb5.size))).trans (hb7.mono (Nat.le_trans (Nat.le_trans hb04.size hb5.size) hb6.size)))⟩
    · go_wp2_with fail
      go_ret
      exact ⟨rfl, hb04⟩
  · go_wp2_with fail
    go_ret
    exact ⟨rfl, hb03⟩
end Go.Proofs.YtemeamckdfnlfaaGreatDoor
