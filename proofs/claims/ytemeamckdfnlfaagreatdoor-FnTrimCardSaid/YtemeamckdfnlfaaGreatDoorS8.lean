/- Contracts: spec.every over spec.numeric answers some truth; spec.Ascii, exactly. -/
import Derived.Test.YtemeamckdfnlfaaGreatDoorS7
namespace Go.Proofs.YtemeamckdfnlfaaGreatDoor
open Go Go.RowKit
theorem numeric_any (k n d : Int) (t : ByteArray) (ht : t.size ≤ 1000) (w : World) : Calls Tryz.prog 143 #[.agg #[.int .i64 k, .int .i64 n, .int .i64 d, .string t, .slice none 0 0]] w (SomeBool w) := by
  by_cases hk : k = 2
  · subst hk
    exact numeric_text n d t ht w
  · exact numeric_num k n d t hk w

/-- All texts of a list of values are short. -/
def Short (vs : List V) : Prop := ∀ v ∈ vs, v.t.size ≤ 1000
theorem Short.at {vs : List V} (h : Short vs) {i : Nat} {v : V} (hv : vs[i]? = some v) : v.t.size ≤ 1000 := h v (List.mem_of_getElem? hv)

set_option maxHeartbeats 400000 in
theorem every_numeric (vs : List V) (A : Option Addr) (n c : Nat) (w : World) (hr : Rd w w.heap.size 5 A n (cellsV vs)) (hs : Short vs) (hn : n ≤ 1000) :
    Calls Tryz.prog 142 #[.slice A n c, .func (.func 143) #[] #[]] w (SomeBool w) := by
  have HR := hide hr
  have HS := hide hs
  clear hr hs
  go_enter Tryz.func142, Tryz.ntmps142
  go_wp2_with fail
  go_loopw [5] (fun i wr => ∃ k : Nat, k ≤ n ∧ i = .int .i64 k ∧ Below w.heap.size w wr) (fun i _ => n - (intOf i).toNat)
  case atStart => exact ⟨0, by omega, rfl, Below.refl _ _⟩
  case round =>
    obtain ⟨k, hk, rfl, hb⟩ := hrel
    by_cases hlt : k < n
    · obtain ⟨g, kk, m, d, t, rfl, hg, hv, h0, h1, h2, h3, h4⟩ := rdV (HR.out.below hb) k hlt
      have ht := HS.out.at hv
      have ht' : t.size ≤ 1000 := ht
      clear ht hv
      go_wp2_with (go_at_call 143; refine (numeric_any _ _ _ _ ht' _).mono ?_; rintro e w1 ⟨b, rfl, hb1⟩; have hz := hb.size; have hz1 := hb1.size; cases b)
      all_goals first
        | (go_roundw
           case rel => exact ⟨k + 1, by omega, by go_num, by (repeat' (first | (with_reducible exact Below.refl _ _) | (with_reducible assumption) | (with_reducible refine Below.setCell ?_ ?_ _) | (with_reducible refine Below.alloc ?_ ?_ _) | (with_reducible refine Below.drew ?_) | (with_reducible refine below_drewN ?_ _) | (with_reducible refine Below.trans ?_ (Below.mono (by assumption) ?_)) | (simp <;> omega) | omega))⟩
           case measure => simp [intOf]; omega)
        | (go_ret
           exact ⟨_, rfl, by (repeat' (first | (with_reducible exact Below.refl _ _) | (with_reducible assumption) | (with_reducible refine Below.setCell ?_ ?_ _) | (with_reducible refine Below.alloc ?_ ?_ _) | (with_reducible refine Below.drew ?_) | (with_reducible refine below_drewN ?_ _) | (with_reducible refine Below.trans ?_ (Below.mono (by assumption) ?_)) | (simp <;> omega) | omega))⟩)
    · go_wp2_with fail
      go_ret
      exact ⟨_, rfl, hb⟩

/-- spec.Ascii, exactly. -/
def asciiB (s : ByteArray) : Bool := s.data.toList.all fun c => decide (32 ≤ c.toNat) && decide (c.toNat ≤ 126)
set_option maxHeartbeats 400000 in
theorem ascii_any (s : ByteArray) (hs : s.size ≤ 1000) (w : World) : Calls Tryz.prog 150 #[.string s] w fun e w' => e = .returned (.bool (asciiB s)) ∧ w = w' := by
  go_enter Tryz.func150, Tryz.ntmps150
  go_wp2_with fail
  go_loop [3] (fun i => ∃ k : Nat, k ≤ s.size ∧ i = .int .i64 k ∧ Hid (∀ j, j < k → ∀ c, s.data[j]? = some c → 32 ≤ c.toNat ∧ c.toNat ≤ 126)) (fun i => s.size - (intOf i).toNat)
  case atStart => exact ⟨0, Nat.zero_le _, rfl, hide (fun j hj => by omega)⟩
  case round =>
    obtain ⟨k, hk, rfl, hall⟩ := hrel
    by_cases hlt : k < s.size
    · have hb8 := s[k].toNat_lt
      have hbad : ∀ (_ : ¬ (32 ≤ s[k].toNat ∧ s[k].toNat ≤ 126)), asciiB s = false := by
        intro h
        unfold asciiB
        rw [List.all_eq_false]
        refine ⟨s[k], ?_, by simp; omega⟩
        rw [show s[k] = s.data[k] from rfl]
        simp
      have hgood : ∀ (_ : 32 ≤ s[k].toNat ∧ s[k].toNat ≤ 126), Hid (∀ j, j < k + 1 → ∀ c, s.data[j]? = some c → 32 ≤ c.toNat ∧ c.toNat ≤ 126) := by
        intro h
        refine hide fun j hj c hc => ?_
        rcases Nat.lt_or_ge j k with h1 | h1
        · exact hall.out j h1 c hc
        · obtain rfl : j = k := by omega
          have : s.data[j]? = some s[j] := Array.getElem?_eq_getElem hlt
          rw [this] at hc
          cases hc
          exact h
      have HB := hide hbad
      have HG := hide hgood
      clear hbad hgood
      by_cases h1 : (s[k].toNat : Int) < 32
      · go_wp2_with fail
        go_ret
        exact ⟨ret_val (by rw [HB.out (by omega)]; rfl), rfl⟩
      · by_cases h2 : 126 < (s[k].toNat : Int)
        · go_wp2_with fail
          go_ret
          exact ⟨ret_val (by rw [HB.out (by omega)]; rfl), rfl⟩
        · go_wp2_with fail
          go_round
          case rel => exact ⟨k + 1, by omega, by go_num, HG.out (by omega)⟩
          case measure => simp [intOf]; omega
    · obtain rfl : k = s.size := by omega
      go_wp2_with fail
      go_ret
      refine ⟨ret_val ?_, rfl⟩
      have : asciiB s = true := by
        unfold asciiB
        rw [List.all_eq_true]
        intro c hc
        obtain ⟨j, hj, rfl⟩ := List.getElem_of_mem hc
        have hj' : j < s.size := by simpa using hj
        have := hall.out j hj' s.data[j] (Array.getElem?_eq_getElem hj')
        simp; exact this
      rw [this]; rfl
end Go.Proofs.YtemeamckdfnlfaaGreatDoor
