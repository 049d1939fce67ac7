/- Contracts for the name T: spec.fitsNumbers, spec.fitsTexts, spec.Fits of one value answer some truth. -/
import Derived.Test.YtemeamckdfnlfaaGreatDoorS8
namespace Go.Proofs.YtemeamckdfnlfaaGreatDoor
open Go Go.RowKit
set_option maxRecDepth 100000 in
set_option maxHeartbeats 2000000 in
theorem fitsNumbers_T (vs : List V) (A : Option Addr) (n c : Nat) (w : World) (hr : Rd w w.heap.size 5 A n (cellsV vs)) (hs : Short vs) (hn : n ≤ 1000) :
    Calls Tryz.prog 66 #[.string ⟨#[84]⟩, .slice A n c] w fun e w' => e = .returned (.tuple #[.bool false, .bool false]) ∧ Below w.heap.size w w' := by
  have HE := hide (every_numeric vs A n c w hr hs hn)
  clear hr hs
  go_enter Tryz.func66, Tryz.ntmps66
  go_wp2_with (go_at_call 142; refine HE.out.mono ?_; rintro e w1 ⟨b, rfl, hb1⟩)
  go_ret2
  exact ⟨rfl, hb1⟩

/-- What stands of the one value of a list of one. -/
theorem rdV1 {w : World} {B : Nat} {A : Option Addr} {v : V} (h : Rd w B 5 A 1 (cellsV [v])) :
    ∃ g : Nat, A = some ⟨g, 0, none⟩ ∧ g < B ∧ w.cell? ⟨g, 0, none⟩ = some (.int .i64 v.k) ∧ w.cell? ⟨g, 1, none⟩ = some (.int .i64 v.n) ∧
      w.cell? ⟨g, 2, none⟩ = some (.int .i64 v.d) ∧ w.cell? ⟨g, 3, none⟩ = some (.string v.t) ∧ w.cell? ⟨g, 4, none⟩ = some (.slice none 0 0) := by
  obtain ⟨g, e, hg, hc⟩ := h.2 (by omega)
  exact ⟨g, e, hg, hc 0 _ rfl, hc 1 _ rfl, hc 2 _ rfl, hc 3 _ rfl, hc 4 _ rfl⟩

/-- Some truth, beside a known one. -/
def SomeTell (b2 : Bool) (w : World) (e : Ending) (w' : World) : Prop := ∃ b : Bool, e = .returned (.tuple #[.bool b, .bool b2]) ∧ Below w.heap.size w w'
set_option maxRecDepth 100000 in
set_option maxHeartbeats 2000000 in
theorem fitsTexts_T (k m d : Int) (t : ByteArray) (ht : t.size ≤ 1000) (A : Option Addr) (c : Nat) (w : World) (hr : Rd w w.heap.size 5 A 1 (cellsV [⟨k, m, d, t⟩])) :
    Calls Tryz.prog 67 #[.string ⟨#[84]⟩, .slice A 1 c] w (SomeTell true w) := by
  obtain ⟨g, rfl, hg, h0, h1, h2, h3, h4⟩ := rdV1 hr
  clear hr
  go_enter Tryz.func67, Tryz.ntmps67
  go_wp2_with (go_at_call 150; refine (ascii_any _ ht _).mono ?_; rintro e w1 ⟨rfl, rfl⟩)
  all_goals (go_ret2; exact ⟨_, rfl, Below.refl _ _⟩)

theorem fits_T (k m d : Int) (t : ByteArray) (ht : t.size ≤ 1000) (A : Option Addr) (c : Nat) (w : World) (hr : Rd w w.heap.size 5 A 1 (cellsV [⟨k, m, d, t⟩])) :
    Calls Tryz.prog 42 #[.string ⟨#[84]⟩, .slice A 1 c] w (SomeBool w) := by
  have HR := hide hr
  have H1 := hide (fitsNumbers_T [⟨k, m, d, t⟩] A 1 c w hr (by intro v hv; simp at hv; subst hv; exact ht) (by omega))
  clear hr
  go_enter Tryz.func42, Tryz.ntmps42
  go_wp2_with fail
  refine H1.out.mono ?_
  rintro e w1 ⟨rfl, hb1⟩
  go_wp2_with fail
  refine (fitsTexts_T k m d t ht A c _ ((HR.out.below hb1).more hb1.size)).mono ?_
  rintro e w2 ⟨b, rfl, hb2⟩
  have hz := hb1.size
  go_wp2_with fail
  go_ret
  exact ⟨_, rfl, by (repeat' (first | (with_reducible exact Below.refl _ _) | (with_reducible assumption) | (with_reducible refine Below.setCell ?_ ?_ _) | (with_reducible refine Below.alloc ?_ ?_ _) | (with_reducible refine Below.drew ?_) | (with_reducible refine below_drewN ?_ _) | (with_reducible refine Below.trans ?_ (Below.mono (by assumption) ?_)) | (simp <;> omega) | omega))⟩
end Go.Proofs.YtemeamckdfnlfaaGreatDoor
