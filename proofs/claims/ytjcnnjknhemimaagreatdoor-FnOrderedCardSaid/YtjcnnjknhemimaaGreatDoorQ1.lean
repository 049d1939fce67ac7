/- The numbers that FnOrdered sorts, as doubles: how two compare; cmp.Less. -/
import Derived.Test.YtjcnnjknhemimaaGreatDoorWords
import Derived.Test.YtjcnnjknhemimaaGreatDoorFl
import Derived.Test.YtjcnnjknhemimaaGreatDoorProg
import Derived.WalkKit
import Derived.BigGuard
import Derived.BigCall
import Derived.CellFam
import Derived.Deep.Draws
import Derived.BigQuiet
import Derived.Deep.QuietTactic
import Derived.Deep.RegionWith
import Derived.Sort.Row
import Derived.Sort.Grow
import Derived.Sort.Statements
import Derived.KernelRfl
namespace Go.Proofs.YtjcnnjknhemimaaGreatDoor
open Go Go.RowKit Go.Sort Ieee Fl
/-- A whole number of at most four digits. -/
def Sm : Type := { n : Int // n.natAbs ≤ 9999 }
instance : Inhabited Sm := ⟨⟨0, by decide⟩⟩
/-- The double of a number, as an argument keeps it. -/
def dbl (n : Int) : Nat := (double.div (floatOfInt .f64 n) (floatOfInt .f64 1)).getD 0
/-- Its word in a list of numbers: a nought has no sign. -/
def word0 (n : Int) : Nat := if FloatKind.f64.format.order (dbl n) 0 = some .eq then 0 else dbl n
theorem word_ex : ∃ f : Int → Nat, f = word0 := ⟨word0, rfl⟩
/-- The same behind a veil: the kernel does not look into it (it did, wherever two words were compared in a region's proof, and ran out of memory). -/
noncomputable def word : Int → Nat := Classical.choose word_ex
theorem word_eq : word = word0 := Classical.choose_spec word_ex
theorem zero_is : FloatKind.f64.nearest 0 = 0 := by decide
theorem dbl_is (n : Int) (h : n.natAbs ≤ 99999999999) : Is (dbl n) n 0 := by
  obtain ⟨r, hr, hi⟩ := is_div (p := 0) (by omega) (is_int n (by omega)) (by omega)
  have hr' : double.div (floatOfInt .f64 n) (floatOfInt .f64 1) = some r := hr
  unfold dbl
  rw [hr', Option.getD_some]
  exact hi
theorem word_is (n : Int) (h : n.natAbs ≤ 99999999999) : Is (word n) n 0 := by
  have hx := dbl_is n h
  rw [word_eq]
  unfold word0
  split
  · rename_i h0
    have h1 := order_is hx (is_int 0 (by decide))
    rw [zero_is] at h1
    have h2 : compare n 0 = .eq := by
      have h3 : (some (compare n 0) : Option Ordering) = some .eq := h1.symm.trans h0
      simpa using h3
    have hi : n = 0 := Int.compare_eq_eq.1 h2
    subst hi
    have := is_int 0 (by decide)
    rw [zero_is] at this
    exact this
  · exact hx
noncomputable def enc (x : Sm) : Value := .float .f64 (word x.1)
def lt (x y : Sm) : Bool := decide (x.1 < y.1)
theorem lt_swo : SWO lt := by
  refine ⟨fun x => by simp [lt], fun x y z h1 h2 => ?_, fun x y z h1 h2 => ?_⟩
  · simp only [lt, decide_eq_true_eq] at *
    omega
  · simp only [lt, decide_eq_false_iff_not] at *
    omega
theorem order_word (x y : Sm) : FloatKind.f64.format.order (word x.1) (word y.1) = some (compare x.1 y.1) := order_is (word_is x.1 (by have := x.2; omega)) (word_is y.1 (by have := y.2; omega))
theorem word_lt (x y : Sm) : (FloatKind.f64.format.order (word x.1) (word y.1) == some .lt) = lt x y := by
  rw [order_word]
  unfold lt
  by_cases h : x.1 < y.1
  · rw [show compare x.1 y.1 = .lt from Int.compare_eq_lt.2 h]; simp [h]
  · have : compare x.1 y.1 ≠ .lt := fun e => h (Int.compare_eq_lt.1 e)
    simp [h, this]
theorem word_self (x : Sm) : FloatKind.f64.format.order (word x.1) (word x.1) = some .eq := by
  rw [order_word]
  simp
theorem isNaN_cmp (x : Sm) (w : World) : Calls Tryz.prog 108 #[.float .f64 (word x.1)] w fun e w' => e = .returned (.bool false) ∧ w = w' := by
  have hx := word_self x
  generalize word x.1 = u at *
  go_enter Tryz.func108, Tryz.ntmps108
  go_wp2_with fail
  go_ret
  exact ⟨by first | rfl | (rw [hx]; rfl) | simp [hx], rfl⟩
theorem less_any (x y : Sm) (w : World) : Calls Tryz.prog 91 #[.float .f64 (word x.1), .float .f64 (word y.1)] w fun e w' => e = .returned (.bool (lt x y)) ∧ w' = w := by
  have hl := word_lt x y
  have HX := hide (isNaN_cmp x)
  have HY := hide (isNaN_cmp y)
  generalize lt x y = b at *
  generalize word x.1 = u at *
  generalize word y.1 = v at *
  go_enter Tryz.func91, Tryz.ntmps91
  go_wp2_with (go_at_call 108; refine (HX.out _).mono ?_; rintro e w1 ⟨rfl, rfl⟩)
  go_ret
  exact ⟨rfl, rfl⟩
end Go.Proofs.YtjcnnjknhemimaaGreatDoor
