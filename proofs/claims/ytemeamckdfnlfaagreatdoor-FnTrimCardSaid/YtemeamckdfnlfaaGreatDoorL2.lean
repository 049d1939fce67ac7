/- Contracts of the laws' own helpers: spec.Table, laws.doubtful, laws.shortTexts. -/
import Derived.Test.YtemeamckdfnlfaaGreatDoorL1
namespace Go.Proofs.YtemeamckdfnlfaaGreatDoor
open Go Go.RowKit
theorem table_any (A : Option Addr) (m c : Nat) (w : World) :
    Calls Tryz.prog 19 #[.slice A m c] w fun e w' => e = .returned (.agg #[.int .i64 5, .int .i64 0, .int .i64 0, .string ⟨#[]⟩, .slice A m c]) ∧ Below w.heap.size w w' := by
  go_enter Tryz.func19, Tryz.ntmps19
  go_wp2_with fail
  refine bodyPost_ret (v := .agg #[.int .i64 5, .int .i64 0, .int .i64 0, .string ⟨#[]⟩, .slice A m c]) ?_ rfl ⟨rfl, ?_⟩
  · simp [results, Tryz.results19, go_sem]
  · (repeat' (first | (with_reducible exact Below.refl _ _) | (with_reducible assumption) | (with_reducible refine Below.setCell ?_ ?_ _) | (with_reducible refine Below.alloc ?_ ?_ _) | (with_reducible refine Below.drew ?_) | (with_reducible refine below_drewN ?_ _) | (with_reducible refine Below.trans ?_ (Below.mono (by assumption) ?_)) | (simp <;> omega) | omega))

theorem size2 (w : World) (a b : Obj) : ((w.alloc a).alloc b).heap.size = w.heap.size + 2 := by simp
/-- A value of the list is Unsure. -/
def unsure (vs : List V) : Bool := vs.any fun v => v.k == 6
theorem unsure_none {vs : List V} (h : ∀ j, j < vs.length → ∀ v, vs[j]? = some v → v.k ≠ 6) : unsure vs = false := by
  unfold unsure
  rw [List.any_eq_false]
  intro v hv
  obtain ⟨j, hj, rfl⟩ := List.getElem_of_mem hv
  simpa using h j hj _ (List.getElem?_eq_getElem hj)
theorem unsure_some {vs : List V} {j : Nat} {v : V} (h : vs[j]? = some v) (hk : v.k = 6) : unsure vs = true := by
  unfold unsure
  rw [List.any_eq_true]
  exact ⟨v, List.mem_of_getElem? h, by simpa using hk⟩

set_option maxRecDepth 100000 in
set_option maxHeartbeats 1000000 in
theorem doubtful_of (k m d : Int) (t : ByteArray) (sl : Value) (hsl : ∃ A n c, sl = .slice A n c) (vs : List V) (n : Nat) (hn : n ≤ 1000) (w : World)
    (hF : Calls Tryz.prog 32 #[.slice (some ⟨w.heap.size + 1, 0, none⟩) 1 1] ((w.alloc (.cells #[.int .i64 k, .int .i64 m, .int .i64 d, .string t, sl] 27)).alloc (.cells #[.int .i64 k, .int .i64 m, .int .i64 d, .string t, sl] 27))
      fun e w' => ∃ A' c', e = .returned (.slice A' n c') ∧ w'.ownsRow (w.heap.size + 2) 27 5 (.slice A' n c') n (cellsV vs) ∧ Below (w.heap.size + 2) ((w.alloc (.cells #[.int .i64 k, .int .i64 m, .int .i64 d, .string t, sl] 27)).alloc (.cells #[.int .i64 k, .int .i64 m, .int .i64 d, .string t, sl] 27)) w') :
    Calls Tryz.prog 18 #[.agg #[.int .i64 k, .int .i64 m, .int .i64 d, .string t, sl]] w fun e w' => e = .returned (.bool (unsure vs)) ∧ Below w.heap.size w w' := by
  obtain ⟨sA, sn, sc, rfl⟩ := hsl
  have HF := hide hF
  clear hF
  go_enter Tryz.func18, Tryz.ntmps18
  go_wp2_with fail
  refine HF.out.mono ?_
  rintro e w1 ⟨A, c, rfl, hown, hb1⟩
  have HR := hide (Rd.of_own hown)
  have hl : vs.length = n := by have := hown.1; rw [cellsV_length] at this; omega
  have hb : Below w.heap.size w w1 := by (repeat' (first | (with_reducible exact Below.refl _ _) | (with_reducible assumption) | (with_reducible refine Below.setCell ?_ ?_ _) | (with_reducible refine Below.alloc ?_ ?_ _) | (with_reducible refine Below.drew ?_) | (with_reducible refine below_drewN ?_ _) | (with_reducible refine Below.trans ?_ (Below.mono (by assumption) ?_)) | (simp <;> omega) | omega))
  clear hown HF
  go_wp2_with fail
  go_loop [4] (fun i => ∃ k : Nat, k ≤ n ∧ i = .int .i64 k ∧ Hid (∀ j, j < k → ∀ v, vs[j]? = some v → v.k ≠ 6)) (fun i => n - (intOf i).toNat)
  case atStart => exact ⟨0, by omega, rfl, hide (fun j hj => by omega)⟩
  case round =>
    obtain ⟨k, hk, rfl, hall⟩ := hrel
    by_cases hlt : k < n
    · obtain ⟨g, kk, m, d, t, rfl, hg, hv, h0, h1, h2, h3, h4⟩ := rdV HR.out k hlt
      have HV := hide hv
      clear hv
      by_cases h6 : kk = 6
      · subst h6
        go_wp2_with fail
        go_ret
        exact ⟨by rw [unsure_some HV.out rfl]; rfl, hb⟩
      · go_wp2_with fail
        go_round
        case rel =>
          refine ⟨k + 1, by omega, by go_num, hide fun j hj v hv => ?_⟩
          rcases Nat.lt_or_ge j k with h | h
          · exact hall.out j h v hv
          · obtain rfl : j = k := by omega
            have := HV.out
            rw [this] at hv
            cases hv
            exact h6
        case measure => simp [intOf]; omega
    · obtain rfl : k = n := by omega
      go_wp2_with fail
      go_ret
      exact ⟨by rw [unsure_none (fun j hj => hall.out j (by omega))]; rfl, hb⟩

theorem doubtful_one (v : V) (hk : v.k ≠ 5) (w : World) :
    Calls Tryz.prog 18 #[.agg #[.int .i64 v.k, .int .i64 v.n, .int .i64 v.d, .string v.t, .slice none 0 0]] w fun e w' => e = .returned (.bool (unsure [v])) ∧ Below w.heap.size w w' := by
  refine doubtful_of v.k v.n v.d v.t _ ⟨none, 0, 0, rfl⟩ [v] 1 (by omega) w ?_
  refine (flat_any [v] (by intro u hu; simp at hu; subst hu; exact hk) _ 1 1 (by omega) _ ?_).mono ?_
  · refine ⟨rfl, fun _ => ⟨_, rfl, by simp, fun j u hu => ?_⟩⟩
    rw [show w.heap.size + 1 = (w.alloc (.cells #[.int .i64 v.k, .int .i64 v.n, .int .i64 v.d, .string v.t, .slice none 0 0] 27)).heap.size by simp]
    refine (World.cell?_alloc_mark _ _ 27 (0, 0) j).trans ?_
    have : (#[.int .i64 v.k, .int .i64 v.n, .int .i64 v.d, .string v.t, .slice none 0 0] : Array Value).toList = cellsV [v] := rfl
    rw [← Array.getElem?_toList, this, hu]
  · rw [size2]
    exact fun e w' h => h

theorem doubtful_table (vs : List V) (hp : Plain vs) (A : Option Addr) (n c g1 c1 : Nat) (hn : n ≤ 1000) (w : World) (hg : g1 < w.heap.size) (h0 : w.cell? ⟨g1, 0, none⟩ = some (.slice A n c)) (hr : Rd w w.heap.size 5 A n (cellsV vs)) :
    Calls Tryz.prog 18 #[.agg #[.int .i64 5, .int .i64 0, .int .i64 0, .string ⟨#[]⟩, .slice (some ⟨g1, 0, none⟩) 1 c1]] w fun e w' => e = .returned (.bool (unsure vs)) ∧ Below w.heap.size w w' := by
  refine doubtful_of 5 0 0 ⟨#[]⟩ _ ⟨_, _, _, rfl⟩ vs n hn w ?_
  have hb : Below w.heap.size w ((w.alloc (.cells #[.int .i64 5, .int .i64 0, .int .i64 0, .string ⟨#[]⟩, .slice (some ⟨g1, 0, none⟩) 1 c1] 27)).alloc (.cells #[.int .i64 5, .int .i64 0, .int .i64 0, .string ⟨#[]⟩, .slice (some ⟨g1, 0, none⟩) 1 c1] 27)) := by (repeat' (first | (with_reducible exact Below.refl _ _) | (with_reducible assumption) | (with_reducible refine Below.setCell ?_ ?_ _) | (with_reducible refine Below.alloc ?_ ?_ _) | (with_reducible refine Below.drew ?_) | (with_reducible refine below_drewN ?_ _) | (with_reducible refine Below.trans ?_ (Below.mono (by assumption) ?_)) | (simp <;> omega) | omega))
  refine (flat_table vs hp _ A n c 1 hn _ ⟨w.heap.size + 1, g1, c1, rfl, by simp, by simp; omega, ?_, ?_, ?_, ?_, ?_, (hb.cell (p := ⟨g1, 0, none⟩) hg).trans h0⟩ ((hr.below hb).more hb.size)).mono ?_
  · simp
  · simp
  · simp
  · simp
  · simp
  · rw [size2]
    exact fun e w' h => h

theorem short_one (t : ByteArray) (g c : Nat) (w : World) (h0 : w.cell? ⟨g, 0, none⟩ = some (.string t)) :
    Calls Tryz.prog 8 #[.slice (some ⟨g, 0, none⟩) 1 c] w fun e w' => e = .returned (.bool (decide (t.size ≤ 1000))) ∧ w = w' := by
  go_enter Tryz.func8, Tryz.ntmps8
  go_wp2_with fail
  go_loop [3] (fun i => i = .int .i64 0 ∨ (i = .int .i64 1 ∧ t.size ≤ 1000)) (fun i => 1 - (intOf i).toNat)
  case atStart => exact .inl rfl
  case round =>
    rcases hrel with rfl | ⟨rfl, ht⟩
    · by_cases ht : t.size ≤ 1000
      · go_wp2_with fail
        go_round
        case rel => exact .inr ⟨rfl, ht⟩
        case measure => simp [intOf]
      · go_wp2_with fail
        go_ret
        exact ⟨by simp, rfl⟩
    · go_wp2_with fail
      go_ret
      exact ⟨by simp, rfl⟩
end Go.Proofs.YtemeamckdfnlfaaGreatDoor
