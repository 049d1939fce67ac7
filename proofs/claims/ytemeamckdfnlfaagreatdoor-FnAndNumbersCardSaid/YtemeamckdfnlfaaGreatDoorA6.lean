/- The plain law of AND, and the law's comparison: laws.agrees of AND answers true. -/
import Derived.Test.YtemeamckdfnlfaaGreatDoorA2
import Derived.Test.YtemeamckdfnlfaaGreatDoorA5
import Derived.Test.YtemeamckdfnlfaaGreatDoorAgr
namespace Go.Proofs.YtemeamckdfnlfaaGreatDoor
open Go Go.RowKit Ieee Fl
attribute [local go_sem] run_store_float
/-- What the laws hand to AND, in full. -/
def AndOk (v : V) : Prop := v.t.size ≤ 1000 ∧ ((v.k = 3 ∧ (v.n = 0 ∨ v.n = 1)) ∨ (v.k = 1 ∧ v.d = 1 ∧ v.n.natAbs ≤ 99999999999) ∨ v.k = 6)
theorem AndOk.andV {v : V} (h : AndOk v) : AndV v := by
  obtain ⟨h1, h2⟩ := h
  exact ⟨by omega, h1⟩
theorem AndOk.okV {v : V} (h : AndOk v) : OkV v := by
  obtain ⟨h1, h2⟩ := h
  refine ⟨by omega, fun h => ⟨by omega, 0, by omega, by simp; omega⟩⟩
theorem float_zero : floatOfInt .f64 0 = 0 := by decide
theorem float_one : floatOfInt .f64 1 = 4607182418800017408 := by decide
theorem yes_zero : yes 0 = false := by decide
theorem yes_one : yes 4607182418800017408 = true := by decide
theorem yes_arg {v : V} (h : AndOk v) (h6 : v.k ≠ 6) : yes (argOf (ofV v)).x = (v.n != 0) := by
  obtain ⟨k, n, d, t⟩ := v
  obtain ⟨-, h⟩ := h
  simp only at h h6
  rcases h with ⟨rfl, h⟩ | ⟨rfl, rfl, hn⟩ | rfl
  · rcases h with rfl | rfl
    · simp only [argOf, ofV, xOf]
      simp [float_zero, oneOf, order_zero, yes_zero]
    · simp only [argOf, ofV, xOf]
      simp [float_one, oneOf, order_one, yes_one]
  · obtain ⟨r, hr, hi⟩ := is_div (p := 0) (by omega) (is_int n (by omega)) (by omega)
    have hr' : double.div (floatOfInt .f64 n) (floatOfInt .f64 1) = some r := hr
    have h0 := is_int 0 (by decide)
    have e : (argOf (ofV ⟨1, n, 1, t⟩)).x = numOf r := by simp [argOf, ofV, xOf, hr']
    rw [e]
    have ho : FloatKind.f64.format.order r 0 = some (compare n 0) := by
      have := order_is hi h0
      rw [show FloatKind.f64.nearest 0 = 0 from float_zero] at this
      exact this
    unfold numOf
    by_cases hz : n = 0
    · subst hz
      have : FloatKind.f64.format.order r 0 = some .eq := by rw [ho]; rfl
      rw [if_pos this, yes_zero]
      rfl
    · have : FloatKind.f64.format.order r 0 ≠ some .eq := by
        rw [ho]
        intro h
        have h' : compare n 0 = .eq := by simpa using h
        exact hz (Int.compare_eq_eq.1 h')
      have e1 : (FloatKind.f64.format.order r 0 != some .eq) = true := bne_iff_ne.2 this
      have e2 : (n != 0) = true := bne_iff_ne.2 hz
      rw [if_neg this, e2]
      exact e1
  · exact absurd rfl h6
theorem andI_of {v : V} (h : AndOk v) (h6 : v.k ≠ 6) : AndI (ofV v) := by
  have hk : v.k = 1 ∨ v.k = 3 := by have := h.2; omega
  refine ⟨okI_of v h.okV (by omega), ?_⟩
  rcases hk with hk | hk <;> simp [argOf, ofV, hk]
theorem final_AND (vs : List V) (h : ∀ v ∈ vs, AndOk v) (hu : unsure vs = false) :
    ((vs.map ofV).map argOf).all (fun f => yes f.x) = decide (cntV vs = vs.length) := by
  have h6 : ∀ v ∈ vs, v.k ≠ 6 := fun v hv => by
    unfold unsure at hu
    rw [List.any_eq_false] at hu
    simpa using hu v hv
  have e : ((vs.map ofV).map argOf).all (fun f => yes f.x) = vs.all (fun v => v.n != 0) := by
    rw [List.map_map, List.all_map]
    clear hu
    induction vs with
    | nil => rfl
    | cons v r ih =>
      rw [List.all_cons, List.all_cons, ih (fun u hu => h u (List.mem_cons_of_mem _ hu)) (fun u hu => h6 u (List.mem_cons_of_mem _ hu))]
      simp only [Function.comp]
      rw [yes_arg (h v (by simp)) (h6 v (by simp))]
  rw [e, Bool.eq_iff_iff, decide_eq_true_iff, List.all_eq_true]
  unfold cntV
  rw [List.countP_eq_length]
theorem final_order (b : Bool) : FloatKind.f64.format.order (oneOf b) (xOf ⟨3, b2i b, 0, ⟨#[]⟩⟩) = some .eq := by
  cases b <;> decide
set_option maxRecDepth 100000 in
set_option maxHeartbeats 2000000 in
theorem agrees_AND (vs : List V) (hv : ∀ v ∈ vs, AndOk v) (A : Option Addr) (n c : Nat) (hn : n ≤ 30) (w : World) (hr : Rd w w.heap.size 5 A n (cellsV vs)) :
    Calls Tryz.prog 9 #[.func (.func 13) #[] #[], .string ⟨#[65, 78, 68]⟩, .slice A n c] w fun e w' => e = .returned (.bool true) ∧ Below w.heap.size w w' := by
  have HR := hide hr
  have HK := hide hv
  have hl : vs.length = n := by have := hr.1; rw [cellsV_length] at this; omega
  clear hr hv
  go_enter Tryz.func9, Tryz.ntmps9
  go_wp2_with fail
  refine (call_AND vs (fun v hv => (HK.out v hv).andV) A n c hn _ HR.out).mono ?_
  rintro e w1 ⟨k, m, d, t, hw, rfl, hb1⟩
  have hs1 := hb1.size
  have HW := hide hw
  clear hw
  go_wp2_with fail
  refine (table_any _ _ _ _).mono ?_
  rintro e w2 ⟨rfl, hb2⟩
  have hs2 : w1.heap.size + 2 ≤ w2.heap.size := by have := hb2.size; simpa using this
  have hp2 : Below (w1.heap.size + 2) ((w1.alloc (.cells #[.int .i64 k, .int .i64 m, .int .i64 d, .string t, .slice none 0 0] 27)).alloc (.cells #[.slice A n c] 29)) w2 := hb2.mono (by simp)
  have hcell : w2.cell? ⟨w1.heap.size + 1, 0, none⟩ = some (.slice A n c) := by
    rw [hp2.cell (p := ⟨w1.heap.size + 1, 0, none⟩) (by simp)]
    simp
  have hb02 : Below w.heap.size w w2 := by (repeat' (first | (with_reducible exact Below.refl _ _) | (with_reducible assumption) | (with_reducible refine Below.setCell ?_ ?_ _) | (with_reducible refine Below.alloc ?_ ?_ _) | (with_reducible refine Below.drew ?_) | (with_reducible refine below_drewN ?_ _) | (with_reducible refine Below.trans ?_ (Below.mono (by assumption) ?_)) | (simp <;> omega) | omega))
  go_wp2_with fail
  refine (doubtful_table vs (AndV.plain fun v hv => (HK.out v hv).andV) A n c (w1.heap.size + 1) 1 (by omega) _ (by omega) hcell ((HR.out.below hb02).more hb02.size)).mono ?_
  rintro e w3 ⟨rfl, hb3⟩
  have hs3 : w1.heap.size + 2 ≤ w3.heap.size := by have := hb3.size; omega
  have hp3 : Below (w1.heap.size + 1) (w1.alloc (.cells #[.int .i64 k, .int .i64 m, .int .i64 d, .string t, .slice none 0 0] 27)) w3 :=
    ((Below.alloc (Below.refl _ _) (by simp) _).trans (hp2.mono (by omega))).trans (hb3.mono (by omega))
  have hb03 : Below w.heap.size w w3 := hb02.trans (hb3.mono (by omega))
  obtain ⟨hc3, hf3, hz3⟩ := own_cells hp3
  clear hb1 hb2 hp2 hcell hb02 hb3 hp3 hf3
  obtain ⟨o, ho⟩ : ∃ o, unsure vs = o := ⟨_, rfl⟩
  rw [ho]
  have HO := hide ho
  clear ho
  cases o
  · have hw' : V.mk k m d t = ⟨6, 0, 0, ⟨#[]⟩⟩ ∨ V.mk k m d t = wantAnd vs := by
      rcases HW.out with h | h
      · rw [HO.out] at h; cases h
      · exact h
    have h5 : k ≠ 5 := by
      rcases hw' with h | h
      · cases h; omega
      · unfold wantAnd at h
        split at h <;> (cases h; omega)
    have HW' := hide hw'
    have HD := hide (doubtful_one ⟨k, m, d, t⟩ h5)
    clear h5 hw'
    go_wp2_with fail
    refine (HD.out _).mono ?_
    rintro e w4 ⟨rfl, hb4⟩
    have hs4 := hb4.size
    obtain ⟨o, ho⟩ : ∃ o, unsure [(⟨k, m, d, t⟩ : V)] = o := ⟨_, rfl⟩
    rw [ho]
    have HO4 := hide ho
    clear ho
    have hc4 : ∀ o, w4.cell? ⟨w1.heap.size, o, none⟩ = (#[.int .i64 k, .int .i64 m, .int .i64 d, .string t, .slice none 0 0] : Array Value)[o]? := fun o => (hb4.cell (p := ⟨w1.heap.size, o, none⟩) hz3).trans (hc3 o)
    have hb04 : Below w.heap.size w w4 := hb03.trans (hb4.mono (by omega))
    cases o
    · have hT : 0 < n ∧ V.mk k m d t = ⟨3, b2i (decide (cntV vs = vs.length)), 0, ⟨#[]⟩⟩ := by
        rcases HW'.out with h | h
        · have := HO4.out
          rw [h] at this
          simp [unsure] at this
        · unfold wantAnd at h
          split at h
          · have := HO4.out
            rw [h] at this
            simp [unsure] at this
          · exact ⟨by omega, h⟩
      obtain ⟨hn0, hT⟩ := hT
      have h6 : ∀ v ∈ vs, v.k ≠ 6 := fun v hv => by
        have hu := HO.out
        unfold unsure at hu
        rw [List.any_eq_false] at hu
        simpa using hu v hv
      obtain ⟨B, hB⟩ : ∃ B, decide (cntV vs = vs.length) = B := ⟨_, rfl⟩
      have hF : (valOf (andF ((vs.map ofV).map argOf))).agg' = .agg #[.int .i64 k, .float .f64 (oneOf B), .string t, .slice none 0 0] := by
        have hall := final_AND vs HK.out HO.out
        rw [hB] at hall
        have e1 : andF ((vs.map ofV).map argOf) = ⟨oneOf B, ⟨#[]⟩, true, ⟨#[]⟩, 1⟩ := by unfold andF; rw [hall]
        rw [e1]
        cases hT
        simp [valOf, I.agg']
      have HF := hide hF
      have HS : Hid (∀ w, Calls Tryz.prog 20 #[.agg #[.int .i64 k, .float .f64 (oneOf B), .string t, .slice none 0 0], .agg #[.int .i64 k, .int .i64 m, .int .i64 d, .string t, .slice none 0 0]] w fun e w' => e = .returned (.bool true) ∧ Below w.heap.size w w') := by
        rw [hB] at hT
        cases hT
        exact hide (same_any (oneOf B) ⟨3, b2i B, 0, ⟨#[]⟩⟩ ⟨by simp, by simp⟩ (final_order B))
      have HA := hide (all_any vs (fun v hv => (HK.out v hv).okV) A n c (by omega) w4.drew ((HR.out.below hb04).more hb04.size).drew)
      have HI := hide (fun A c w hr => implAND_any (vs.map ofV) (fun v hv => by obtain ⟨u, h1, rfl⟩ := List.mem_map.1 hv; exact andI_of (HK.out u h1) (h6 u h1)) A n c hn0 hn w hr)
      have hz4 : w1.heap.size < w4.heap.size := by omega
      clear hT hF HD hc3 HW HW' HR HO HO4 h6 hB
      go_wp2_with fail
      go_region_with (first
        | (go_at_call 21; refine HA.out.mono ?_; rintro e w5 ⟨A5, c5, rfl, hown5, hb5⟩; have HR5 := hide (Rd.of_own hown5); clear hown5; have hz5 : w1.heap.size < w5.heap.size := Nat.lt_of_lt_of_le hz4 hb5.size; have hc5 : ∀ o, w5.cell? ⟨w1.heap.size, o, none⟩ = (#[.int .i64 k, .int .i64 m, .int .i64 d, .string t, .slice none 0 0] : Array Value)[o]? := fun o => (hb5.cell (p := ⟨w1.heap.size, o, none⟩) hz4).trans (hc4 o))
        | (go_at_call 13; refine (HI.out A5 c5 _ HR5.out).mono ?_; rintro e w6 ⟨rfl, hb6⟩; rw [HF.out]; have hz6 : w1.heap.size < w6.heap.size := Nat.lt_of_lt_of_le hz5 hb6.size; have hc6 : ∀ o, w6.cell? ⟨w1.heap.size, o, none⟩ = (#[.int .i64 k, .int .i64 m, .int .i64 d, .string t, .slice none 0 0] : Array Value)[o]? := fun o => (hb6.cell (p := ⟨w1.heap.size, o, none⟩) hz5).trans (hc5 o))
        | (go_at_call 20; refine (HS.out _).mono ?_; rintro e w7 ⟨rfl, hb7⟩))
      all_goals
        go_wp2_with fail
        go_ret
        exact ⟨rfl, ((((Below.drew hb04).trans (hb5.mono hb04.size)).trans (hb6.mono (Nat.le_trans hb04.size hb5.size))).trans (hb7.mono (Nat.le_trans (Nat.le_trans hb04.size hb5.size) hb6.size)))⟩
    · go_wp2_with fail
      go_ret
      exact ⟨rfl, hb04⟩
  · go_wp2_with fail
    go_ret
    exact ⟨rfl, hb03⟩
end Go.Proofs.YtemeamckdfnlfaaGreatDoor
