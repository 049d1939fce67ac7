/- Contracts of the machine's MID: countUTF16String at plain bytes, mid. -/
import Derived.Test.YtoglgdapaonioaaGreatDoorK2
import Derived.Test.YtoglgdapaonioaaGreatDoorB3
import Derived.Laws.RangeString
import Derived.Laws.RangeAny
namespace Go.Proofs.YtoglgdapaonioaaGreatDoor
open Go Go.RowKit Ieee Fl
attribute [local go_sem] run_store_float
theorem runeLen_low (r : Int) (h0 : 0 ≤ r) (h1 : r < 128) (w : World) : Calls Tryz.prog 61 #[.int .i32 r] w fun e w' => e = .returned (.int .i64 1) ∧ w = w' := by
  go_enter Tryz.func61, Tryz.ntmps61
  go_wp2_with fail
  go_ret
  exact ⟨rfl, rfl⟩
set_option maxRecDepth 100000 in
theorem count_any (s : ByteArray) (hlow : Low s) (hs : s.size ≤ 1000) (w : World) : Calls Tryz.prog 53 #[.string s] w fun e w' => e = .returned (.int .i64 s.size) ∧ Below w.heap.size w w' := by
  go_enter Tryz.func53, Tryz.ntmps53
  go_wp2_with fail
  go_loopw [3] (fun n w' => ∃ pos : Nat, pos ≤ s.size ∧ w' = w.iter s pos ∧ n = .int .i64 pos) (fun _ w' => s.size - w'.iterPos w.heap.size)
  case atStart => exact ⟨0, Nat.zero_le _, rfl, rfl⟩
  case round =>
    obtain ⟨pos, hle, rfl, rfl⟩ := hrel
    by_cases hp : pos < s.size
    · have hl := hlow pos hp
      have e : s.get! pos = s[pos]'hp := by
        show s.data[pos]! = s.data[pos]
        rw [getElem!_pos]
      rw [e] at hl
      have hnx : ∀ ty, (Instr.next (.pointer (some ⟨w.heap.size, 0, none⟩)) true ty).run Tryz.prog (w.iter s pos) = _ := fun ty => run_next_ascii w s pos ty hp hl
      go_wp2_with (go_at_call 61; refine (runeLen_low _ (by omega) (by omega) _).mono ?_; rintro e w1 ⟨rfl, rfl⟩)
      go_roundw
      case rel => exact ⟨pos + 1, by omega, rfl, by go_num⟩
      case measure =>
        simp
        omega
    · obtain rfl : pos = s.size := by omega
      have hnx : ∀ ty, (Instr.next (.pointer (some ⟨w.heap.size, 0, none⟩)) true ty).run Tryz.prog (w.iter s s.size) = _ := fun ty => run_next_end w s s.size ty hp
      go_wp2_with fail
      go_ret
      exact ⟨rfl, (Below.refl _ _).alloc (Nat.le_refl _) _⟩
end Go.Proofs.YtoglgdapaonioaaGreatDoor
