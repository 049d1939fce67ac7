/- Contract of spec.First over a list without errors and rows: whether a value is Unsure. -/
import Derived.Test.YtemeamckdfnlfaaGreatDoorL2
namespace Go.Proofs.YtemeamckdfnlfaaGreatDoor
open Go Go.RowKit
/-- The first Unsure or error of a list without errors. -/
def RetFirst (vs : List V) (w : World) (e : Ending) (w' : World) : Prop := ∃ (k n d : Int) (t : ByteArray) (b : Bool), unsure vs = b ∧ (b = true → k = 6) ∧ e = .returned (.tuple #[.agg #[.int .i64 k, .int .i64 n, .int .i64 d, .string t, .slice none 0 0], .bool b]) ∧ Below w.heap.size w w'
set_option maxRecDepth 100000 in
set_option maxHeartbeats 1000000 in
theorem first_any (vs : List V) (hv : ∀ v ∈ vs, v.k ≠ 4 ∧ v.k ≠ 5) (A : Option Addr) (n c : Nat) (hn : n ≤ 1000) (w : World) (hr : Rd w w.heap.size 5 A n (cellsV vs)) :
    Calls Tryz.prog 202 #[.slice A n c] w (RetFirst vs w) := by
  have HR0 := hide hr
  have HS := hide hv
  have hl : vs.length = n := by have := hr.1; rw [cellsV_length] at this; omega
  clear hr hv
  go_enter Tryz.func202, Tryz.ntmps202
  go_wp2_with fail
  refine (flat_any vs (fun v h => (HS.out v h).2) A n c hn _ ((HR0.out.alloc (Nat.le_refl _) _).more (by simp))).mono ?_
  rintro e w1 ⟨A1, c1, rfl, hown, hb1⟩
  have HR := hide (Rd.of_own hown)
  have hB : Below (w.heap.size + 1) (w.alloc (.cells #[.int .i64 0, .int .i64 0, .int .i64 0, .string ⟨#[]⟩, .slice none 0 0] 27)) w1 := hb1.mono (by simp)
  obtain ⟨hc1, hf1, hz1⟩ := own_cells hB
  have hbel : Below w.heap.size w w1 := (Below.alloc (Below.refl _ _) (Nat.le_refl _) _).trans (hB.mono (by omega))
  clear hown hb1 hB
  go_wp2_with fail
  go_loop [4] (fun i => ∃ k : Nat, k ≤ n ∧ i = .int .i64 k ∧ Hid (∀ j, j < k → ∀ v, vs[j]? = some v → v.k ≠ 6)) (fun i => n - (intOf i).toNat)
  case atStart => exact ⟨0, by omega, rfl, hide (fun j hj => by omega)⟩
  case round =>
    obtain ⟨k, hk, rfl, hall⟩ := hrel
    by_cases hlt : k < n
    · obtain ⟨g, kk, m, d, t, rfl, hg, hv, h0, h1, h2, h3, h4⟩ := rdV HR.out k hlt
      have HV := hide hv
      clear hv
      by_cases h6 : kk = 6
      · subst h6
        go_wp2_with fail
        refine bodyPost_ret (v := .tuple #[.agg #[.int .i64 6, .int .i64 m, .int .i64 d, .string t, .slice none 0 0], .bool true]) ?_ rfl ⟨6, m, d, t, true, unsure_some HV.out rfl, fun _ => rfl, rfl, ?_⟩
        · simp [results, Tryz.results202, go_sem, hc1]
        · (repeat' (first | (with_reducible exact Below.refl _ _) | (with_reducible assumption) | (with_reducible refine Below.setCell ?_ ?_ _) | (with_reducible refine Below.alloc ?_ ?_ _) | (with_reducible refine Below.drew ?_) | (with_reducible refine below_drewN ?_ _) | (with_reducible refine Below.trans ?_ (Below.mono (by assumption) ?_)) | (simp <;> omega) | omega))
      · go_wp2_with fail
        go_round
        case rel =>
          refine ⟨k + 1, by omega, by go_num, hide fun j hj v hv => ?_⟩
          rcases Nat.lt_or_ge j k with h | h
          · exact hall.out j h v hv
          · obtain rfl : j = k := by omega
            have := HV.out
            rw [this] at hv
            cases hv
            exact h6
        case measure => simp [intOf]; omega
    · obtain rfl : n = k := by omega
      have HU := hide (unsure_none (vs := vs) (fun j hj => hall.out j (by omega)))
      clear hall
      go_wp2_with fail
      go_loop [5] (fun i => ∃ k : Nat, k ≤ n ∧ i = .int .i64 k) (fun i => n - (intOf i).toNat)
      case atStart => exact ⟨0, by omega, rfl⟩
      case round =>
        obtain ⟨k, hk, rfl⟩ := hrel
        by_cases hlt : k < n
        · obtain ⟨g, kk, m, d, t, rfl, hg, hv, h0, h1, h2, h3, h4⟩ := rdV HR.out k hlt
          have h6 : kk ≠ 4 := (HS.out _ (List.mem_of_getElem? hv)).1
          clear hv
          go_wp2_with fail
          go_round
          case rel => exact ⟨k + 1, by omega, by go_num⟩
          case measure => simp [intOf]; omega
        · obtain rfl : n = k := by omega
          go_wp2_with fail
          refine bodyPost_ret (v := .tuple #[.agg #[.int .i64 0, .int .i64 0, .int .i64 0, .string ⟨#[]⟩, .slice none 0 0], .bool false]) ?_ rfl ⟨0, 0, 0, ⟨#[]⟩, false, HU.out, (fun h => by cases h), rfl, ?_⟩
          · simp [results, Tryz.results202, go_sem, hc1]
          · (repeat' (first | (with_reducible exact Below.refl _ _) | (with_reducible assumption) | (with_reducible refine Below.setCell ?_ ?_ _) | (with_reducible refine Below.alloc ?_ ?_ _) | (with_reducible refine Below.drew ?_) | (with_reducible refine below_drewN ?_ _) | (with_reducible refine Below.trans ?_ (Below.mono (by assumption) ?_)) | (simp <;> omega) | omega))
end Go.Proofs.YtemeamckdfnlfaaGreatDoor
