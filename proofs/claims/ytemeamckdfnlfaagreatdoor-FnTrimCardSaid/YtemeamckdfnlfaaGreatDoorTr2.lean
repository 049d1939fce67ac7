/- Contracts for the name TRIM, the reference's side: spec.trimmed, spec.AsText, spec.texts. -/
import Derived.Test.YtemeamckdfnlfaaGreatDoorTr1
import Derived.Test.YtemeamckdfnlfaaGreatDoorT2
import Derived.Test.YtemeamckdfnlfaaGreatDoorL2
namespace Go.Proofs.YtemeamckdfnlfaaGreatDoor
open Go Go.RowKit
set_option maxHeartbeats 1000000 in
theorem trimmed_any (s : ByteArray) (hs : s.size ≤ 1000) (w : World) : Calls Tryz.prog 209 #[.string s] w fun e w' => e = .returned (.string ⟨(trimL s.data.toList s.size).toArray⟩) ∧ Below w.heap.size w w' := by
  go_enter Tryz.func209, Tryz.ntmps209
  go_wp2_with fail
  go_loopw [3, 4] (fun o i wr => ∃ (k : Nat) (x : ByteArray), k ≤ s.size ∧ o = .string x ∧ i = .int .i64 k ∧ Hid (x.data.toList = trimL s.data.toList k) ∧ x.size ≤ 2 * k ∧ Below w.heap.size w wr) (fun _ i _ => s.size - (intOf i).toNat)
  case atStart => exact ⟨0, ⟨#[]⟩, by omega, rfl, rfl, hide rfl, by decide, Below.refl _ _⟩
  case round =>
    obtain ⟨k, x, hk, rfl, rfl, hx, hxs, hb⟩ := hrel
    by_cases hlt : k < s.size
    · have hb8 := s[k].toNat_lt
      have hsz : (s.extract k (k + 1)).size ≤ 1 := by rw [ByteArray.size_extract]; omega
      by_cases h32 : (s[k].toNat : Int) = 32
      · go_wp2_with fail
        go_roundw
        case rel => exact ⟨k + 1, x, by omega, rfl, by go_num, hide (by rw [hx.out, trim_blank s k hlt h32]), by omega, hb⟩
        case measure => simp [intOf]; omega
      · have hs1 : x.size + (s.extract k (k + 1)).size ≤ 9223372036854775807 := by omega
        have hs2 : x.size + 1 ≤ 9223372036854775807 := by omega
        have hs3 : x.size + 1 + (s.extract k (k + 1)).size ≤ 9223372036854775807 := by omega
        rcases Nat.eq_zero_or_pos k with k0 | k0
        · subst k0
          have HP := hide (trim_plain s x 0 hlt h32 hx.out (fun h => by omega))
          go_wp2_with fail
          go_roundw
          case rel => exact ⟨1, x ++ s.extract 0 (0 + 1), by omega, rfl, by go_num, HP, by rw [ByteArray.size_append]; omega, by (repeat' (first | (with_reducible exact Below.refl _ _) | (with_reducible assumption) | (with_reducible refine Below.setCell ?_ ?_ _) | (with_reducible refine Below.alloc ?_ ?_ _) | (with_reducible refine Below.drew ?_) | (with_reducible refine below_drewN ?_ _) | (with_reducible refine Below.trans ?_ (Below.mono (by assumption) ?_)) | (simp <;> omega) | omega))⟩
          case measure => simp [intOf]; omega
        · obtain ⟨m, rfl⟩ : ∃ m, k = m + 1 := ⟨k - 1, by omega⟩
          have hm : m < s.size := by omega
          have hb9 := s[m].toNat_lt
          by_cases h33 : (s[m].toNat : Int) = 32
          · by_cases hx0 : x = ⟨#[]⟩
            · have HP := hide (trim_plain s x (m + 1) hlt h32 hx.out (fun h => h.2.2 (by rw [← hx.out, hx0])))
              subst hx0
              go_wp2_with fail
              go_roundw
              case rel => exact ⟨m + 1 + 1, _, by omega, rfl, by go_num, HP, by rw [ByteArray.size_append]; omega, by (repeat' (first | (with_reducible exact Below.refl _ _) | (with_reducible assumption) | (with_reducible refine Below.setCell ?_ ?_ _) | (with_reducible refine Below.alloc ?_ ?_ _) | (with_reducible refine Below.drew ?_) | (with_reducible refine below_drewN ?_ _) | (with_reducible refine Below.trans ?_ (Below.mono (by assumption) ?_)) | (simp <;> omega) | omega))⟩
              case measure => simp [intOf]; omega
            · have HP := hide (trim_gap s x (m + 1) hlt h32 hx.out ⟨by omega, by rw [Nat.add_sub_cancel, getD_at s m hm]; exact byte_eq h33, bytes_ne hx.out hx0⟩)
              have he : (x.toList == []) = false := eq_false_of x [] hx0
              have he' : x.toList.isEmpty = false := by simpa using he
              go_wp2_with fail
              go_roundw
              case rel => exact ⟨m + 1 + 1, x ++ ⟨#[32]⟩ ++ s.extract (m + 1) (m + 1 + 1), by omega, rfl, by go_num, HP, by rw [ByteArray.size_append, ByteArray.size_append, show (⟨#[32]⟩ : ByteArray).size = 1 from rfl]; omega, by (repeat' (first | (with_reducible exact Below.refl _ _) | (with_reducible assumption) | (with_reducible refine Below.setCell ?_ ?_ _) | (with_reducible refine Below.alloc ?_ ?_ _) | (with_reducible refine Below.drew ?_) | (with_reducible refine below_drewN ?_ _) | (with_reducible refine Below.trans ?_ (Below.mono (by assumption) ?_)) | (simp <;> omega) | omega))⟩
              case measure => simp [intOf]; omega
          · have HP := hide (trim_plain s x (m + 1) hlt h32 hx.out (fun h => byte_ne h33 (by rw [← getD_at s m hm]; exact h.2.1)))
            go_wp2_with fail
            go_roundw
            case rel => exact ⟨m + 1 + 1, x ++ s.extract (m + 1) (m + 1 + 1), by omega, rfl, by go_num, HP, by rw [ByteArray.size_append]; omega, by (repeat' (first | (with_reducible exact Below.refl _ _) | (with_reducible assumption) | (with_reducible refine Below.setCell ?_ ?_ _) | (with_reducible refine Below.alloc ?_ ?_ _) | (with_reducible refine Below.drew ?_) | (with_reducible refine below_drewN ?_ _) | (with_reducible refine Below.trans ?_ (Below.mono (by assumption) ?_)) | (simp <;> omega) | omega))⟩
            case measure => simp [intOf]; omega
    · obtain rfl : k = s.size := by omega
      have HX := hide (bytes_of _ _ hx.out)
      go_wp2_with fail
      go_ret
      exact ⟨ret_val (by rw [← HX.out]; rfl), hb⟩
/-- What AsText makes of a text. -/
def asTextV (t : ByteArray) : V := if asciiB t then ⟨2, 0, 0, t⟩ else ⟨6, 0, 0, ⟨#[]⟩⟩
theorem asText_text (t : ByteArray) (ht : t.size ≤ 1000) (w : World) : Calls Tryz.prog 148 #[.agg #[.int .i64 2, .int .i64 0, .int .i64 0, .string t, .slice none 0 0]] w
    fun e w' => e = .returned (.agg #[.int .i64 (asTextV t).k, .int .i64 (asTextV t).n, .int .i64 (asTextV t).d, .string (asTextV t).t, .slice none 0 0]) ∧ Below w.heap.size w w' := by
  obtain ⟨b, hb⟩ : ∃ b, asciiB t = b := ⟨_, rfl⟩
  have HB := hide hb
  cases b
  · have e : asTextV t = ⟨6, 0, 0, ⟨#[]⟩⟩ := by unfold asTextV; rw [hb]; rfl
    rw [e]
    clear e hb
    go_enter Tryz.func148, Tryz.ntmps148
    go_wp2_with (first
      | (go_at_call 150; refine (ascii_any _ ht _).mono ?_; rintro e w1 ⟨rfl, rfl⟩; rw [HB.out])
      | (go_at_call 43; refine (doubt_any _).mono ?_; rintro e w1 ⟨rfl, hb⟩; obtain ⟨hc, hf⟩ := bcell hb; have hz : w.heap.size < w1.heap.size := by (have := hb.size; simp at this; omega)))
    refine bodyPost_ret (v := .agg #[.int .i64 6, .int .i64 0, .int .i64 0, .string ⟨#[]⟩, .slice none 0 0]) ?_ rfl ⟨rfl, ?_⟩
    · simp [results, Tryz.results148, go_sem, hc]
    · (repeat' (first | (with_reducible exact Below.refl _ _) | (with_reducible assumption) | (with_reducible refine Below.setCell ?_ ?_ _) | (with_reducible refine Below.alloc ?_ ?_ _) | (with_reducible refine Below.drew ?_) | (with_reducible refine below_drewN ?_ _) | (with_reducible refine Below.trans ?_ (Below.mono (by assumption) ?_)) | (simp <;> omega) | omega))
  · have e : asTextV t = ⟨2, 0, 0, t⟩ := by unfold asTextV; rw [hb]; rfl
    rw [e]
    clear e hb
    go_enter Tryz.func148, Tryz.ntmps148
    go_wp2_with (go_at_call 150; refine (ascii_any _ ht _).mono ?_; rintro e w1 ⟨rfl, rfl⟩; rw [HB.out])
    refine bodyPost_ret (v := .agg #[.int .i64 2, .int .i64 0, .int .i64 0, .string t, .slice none 0 0]) ?_ rfl ⟨rfl, ?_⟩
    · simp [results, Tryz.results148, go_sem]
    · (repeat' (first | (with_reducible exact Below.refl _ _) | (with_reducible assumption) | (with_reducible refine Below.setCell ?_ ?_ _) | (with_reducible refine Below.alloc ?_ ?_ _) | (with_reducible refine Below.drew ?_) | (with_reducible refine below_drewN ?_ _) | (with_reducible refine Below.trans ?_ (Below.mono (by assumption) ?_)) | (simp <;> omega) | omega))
end Go.Proofs.YtemeamckdfnlfaaGreatDoor
