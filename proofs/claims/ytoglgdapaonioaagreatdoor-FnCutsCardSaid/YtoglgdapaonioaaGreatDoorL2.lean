/- Contracts: laws.shortTexts of one text, spec.Ascii. -/
import Derived.Test.YtoglgdapaonioaaGreatDoorL1
namespace Go.Proofs.YtoglgdapaonioaaGreatDoor
open Go Go.RowKit
theorem short_one (t : ByteArray) (g c : Nat) (w : World) (h0 : w.cell? ⟨g, 0, none⟩ = some (.string t)) :
    Calls Tryz.prog 4 #[.slice (some ⟨g, 0, none⟩) 1 c] w fun e w' => e = .returned (.bool (decide (t.size ≤ 1000))) ∧ w = w' := by
  go_enter Tryz.func4, Tryz.ntmps4
  go_wp2_with fail
  go_loop [3] (fun i => i = .int .i64 0 ∨ (i = .int .i64 1 ∧ t.size ≤ 1000)) (fun i => 1 - (intOf i).toNat)
  case atStart => exact .inl rfl
  case round =>
    rcases hrel with rfl | ⟨rfl, ht⟩
    · by_cases ht : t.size ≤ 1000
      · go_wp2_with fail
        go_round
        case rel => exact .inr ⟨rfl, ht⟩
        case measure => simp [intOf]
      · go_wp2_with fail
        go_ret
        exact ⟨by simp, rfl⟩
    · go_wp2_with fail
      go_ret
      exact ⟨by simp, rfl⟩
/-- spec.Ascii, exactly. -/
def asciiB (s : ByteArray) : Bool := s.data.toList.all fun c => decide (32 ≤ c.toNat) && decide (c.toNat ≤ 126)
set_option maxHeartbeats 400000 in
theorem ascii_any (s : ByteArray) (hs : s.size ≤ 1000) (w : World) : Calls Tryz.prog 5 #[.string s] w fun e w' => e = .returned (.bool (asciiB s)) ∧ w = w' := by
  go_enter Tryz.func5, Tryz.ntmps5
  go_wp2_with fail
  go_loop [3] (fun i => ∃ k : Nat, k ≤ s.size ∧ i = .int .i64 k ∧ Hid (∀ j, j < k → ∀ c, s.data[j]? = some c → 32 ≤ c.toNat ∧ c.toNat ≤ 126)) (fun i => s.size - (intOf i).toNat)
  case atStart => exact ⟨0, Nat.zero_le _, rfl, hide (fun j hj => by omega)⟩
  case round =>
    obtain ⟨k, hk, rfl, hall⟩ := hrel
    by_cases hlt : k < s.size
    · have hb8 := s[k].toNat_lt
      have hbad : ∀ (_ : ¬ (32 ≤ s[k].toNat ∧ s[k].toNat ≤ 126)), asciiB s = false := by
        intro h
        unfold asciiB
        rw [List.all_eq_false]
        refine ⟨s[k], ?_, by simp; omega⟩
        rw [show s[k] = s.data[k] from rfl]
        simp
      have hgood : ∀ (_ : 32 ≤ s[k].toNat ∧ s[k].toNat ≤ 126), Hid (∀ j, j < k + 1 → ∀ c, s.data[j]? = some c → 32 ≤ c.toNat ∧ c.toNat ≤ 126) := by
        intro h
        refine hide fun j hj c hc => ?_
        rcases Nat.lt_or_ge j k with h1 | h1
        · exact hall.out j h1 c hc
        · obtain rfl : j = k := by omega
          have : s.data[j]? = some s[j] := Array.getElem?_eq_getElem hlt
          rw [this] at hc
          cases hc
          exact h
      have HB := hide hbad
      have HG := hide hgood
      clear hbad hgood
      by_cases h1 : (s[k].toNat : Int) < 32
      · go_wp2_with fail
        go_ret
        exact ⟨ret_val (by rw [HB.out (by omega)]; rfl), rfl⟩
      · by_cases h2 : 126 < (s[k].toNat : Int)
        · go_wp2_with fail
          go_ret
          exact ⟨ret_val (by rw [HB.out (by omega)]; rfl), rfl⟩
        · go_wp2_with fail
          go_round
          case rel => exact ⟨k + 1, by omega, by go_num, HG.out (by omega)⟩
          case measure => simp [intOf]; omega
    · obtain rfl : k = s.size := by omega
      go_wp2_with fail
      go_ret
      refine ⟨ret_val ?_, rfl⟩
      have : asciiB s = true := by
        unfold asciiB
        rw [List.all_eq_true]
        intro c hc
        obtain ⟨j, hj, rfl⟩ := List.getElem_of_mem hc
        have hj' : j < s.size := by simpa using hj
        have := hall.out j hj' s.data[j] (Array.getElem?_eq_getElem hj')
        simp; exact this
      rw [this]; rfl
end Go.Proofs.YtoglgdapaonioaaGreatDoor
