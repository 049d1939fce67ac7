/- Contracts of the reference's functions on bytes and texts that the statements only pass through: each returns, and the old memory stays; of the answer only its kind is said. -/
import Derived.Test.YtemeamckdfnlfaaGreatDoorS1
namespace Go.Proofs.YtemeamckdfnlfaaGreatDoor
open Go Go.RowKit

def lowI (c : Int) : Int := if 65 ≤ c ∧ c ≤ 90 then c + 32 else c
theorem lowI_bd (c : Int) (h0 : 0 ≤ c) (h1 : c ≤ 255) : 0 ≤ lowI c ∧ lowI c ≤ 255 := by
  unfold lowI; split <;> omega
theorem low_any (c : Int) (h0 : 0 ≤ c) (h1 : c ≤ 255) (w : World) : Calls Tryz.prog 204 #[.int .u8 c] w fun e w' => e = .returned (.int .u8 (lowI c)) ∧ w = w' := by
  by_cases ha : 65 ≤ c
  · by_cases hb : c ≤ 90
    · go_enter Tryz.func204, Tryz.ntmps204
      go_wp2
      go_ret
      exact ⟨ret_val (by unfold lowI; rw [if_pos ⟨ha, hb⟩]; rfl), rfl⟩
    · go_enter Tryz.func204, Tryz.ntmps204
      go_wp2
      go_ret
      exact ⟨ret_val (by unfold lowI; rw [if_neg (by omega)]; rfl), rfl⟩
  · go_enter Tryz.func204, Tryz.ntmps204
    go_wp2
    go_ret
    exact ⟨ret_val (by unfold lowI; rw [if_neg (by omega)]; rfl), rfl⟩

/-- Some int comes back, some truth comes back, some text comes back. -/
def SomeBool (w : World) (e : Ending) (w' : World) : Prop := ∃ b : Bool, e = .returned (.bool b) ∧ Below w.heap.size w w'
def SomeInt (w : World) (e : Ending) (w' : World) : Prop := ∃ n : Int, e = .returned (.int .i64 n) ∧ w = w'
def SomeText (w : World) (e : Ending) (w' : World) : Prop := ∃ s : ByteArray, e = .returned (.string s) ∧ Below w.heap.size w w'

theorem abs_any (n : Int) (w : World) : Calls Tryz.prog 224 #[.int .i64 n] w (SomeInt w) := by
  go_enter Tryz.func224, Tryz.ntmps224
  go_wp2
  all_goals (go_ret; exact ⟨_, rfl, rfl⟩)

theorem isWhole_any (k n d : Int) (t : ByteArray) (w : World) : Calls Tryz.prog 168 #[.agg #[.int .i64 k, .int .i64 n, .int .i64 d, .string t, .slice none 0 0]] w
    fun e w' => e = .returned (.bool (k == 1 && d == 1)) ∧ Below w.heap.size w w' := by
  by_cases h1 : k = 1
  · subst h1
    by_cases h2 : d = 1
    · subst h2
      go_enter Tryz.func168, Tryz.ntmps168
      go_wp2
      go_ret
      exact ⟨rfl, by (repeat' (first | (with_reducible exact Below.refl _ _) | (with_reducible assumption) | (with_reducible refine Below.setCell ?_ ?_ _) | (with_reducible refine Below.alloc ?_ ?_ _) | (with_reducible refine Below.drew ?_) | (with_reducible refine below_drewN ?_ _) | (with_reducible refine Below.trans ?_ (Below.mono (by assumption) ?_)) | (simp <;> omega) | omega))⟩
    · have hd : (d == 1) = false := by simpa using h2
      go_enter Tryz.func168, Tryz.ntmps168
      go_wp2
      go_ret
      exact ⟨ret_val (by rw [hd]; rfl), by (repeat' (first | (with_reducible exact Below.refl _ _) | (with_reducible assumption) | (with_reducible refine Below.setCell ?_ ?_ _) | (with_reducible refine Below.alloc ?_ ?_ _) | (with_reducible refine Below.drew ?_) | (with_reducible refine below_drewN ?_ _) | (with_reducible refine Below.trans ?_ (Below.mono (by assumption) ?_)) | (simp <;> omega) | omega))⟩
  · have hd : (k == 1) = false := by simpa using h1
    go_enter Tryz.func168, Tryz.ntmps168
    go_wp2
    go_ret
    exact ⟨ret_val (by rw [hd]; rfl), by (repeat' (first | (with_reducible exact Below.refl _ _) | (with_reducible assumption) | (with_reducible refine Below.setCell ?_ ?_ _) | (with_reducible refine Below.alloc ?_ ?_ _) | (with_reducible refine Below.drew ?_) | (with_reducible refine below_drewN ?_ _) | (with_reducible refine Below.trans ?_ (Below.mono (by assumption) ?_)) | (simp <;> omega) | omega))⟩

set_option maxHeartbeats 1000000 in
theorem month_any (s : ByteArray) (w : World) : Calls Tryz.prog 236 #[.string s] w (SomeBool w) := by
  by_cases h : (s.size : Int) < 3
  · go_enter Tryz.func236, Tryz.ntmps236
    go_wp2
    go_ret
    exact ⟨_, rfl, Below.refl _ _⟩
  · go_enter Tryz.func236, Tryz.ntmps236
    go_wp2
    all_goals (go_ret; exact ⟨_, rfl, Below.refl _ _⟩)

end Go.Proofs.YtemeamckdfnlfaaGreatDoor
