/- Contract of the package's T. -/
import Derived.Test.YtemeamckdfnlfaaGreatDoorD4
namespace Go.Proofs.YtemeamckdfnlfaaGreatDoor
open Go Go.RowKit
attribute [local go_sem] run_store_float
/-- What T answers of an argument. -/
def tF (f : F) : F := if f.ty = 5 then f else if f.ty = 1 then ⟨0, ⟨#[]⟩, false, ⟨#[]⟩, 2⟩ else ⟨0, if f.ty = 2 then f.s else ⟨#[]⟩, false, ⟨#[]⟩, 2⟩
set_option maxRecDepth 100000 in
set_option maxHeartbeats 1000000 in
theorem T_any (a : Addr) (q : Nat → Nat) (f : F) (hf : f.ty = 1 ∨ f.ty = 2 ∨ f.ty = 5 ∨ f.ty = 6) (w : World) (hch : Chain w 1 q [f]) :
    Calls Tryz.prog 36 #[.pointer (some a), .pointer (some ⟨q 0, 0, none⟩)] w fun e w' => e = .returned (tF f).agg ∧ Below w.heap.size w w' := by
  obtain ⟨p1, p2, p3, p4, p5⟩ := hch
  obtain ⟨-, f', ef, p6⟩ := p5 0 (by omega)
  simp only [List.getElem?_cons_zero, Option.some.injEq] at ef
  subst ef
  have p7 := (p1 0 (by omega)).2.2.2
  rw [if_pos (by omega)] at p7
  have g0 := (p1 0 (by omega)).1
  have g1 := (p1 1 (by omega)).1
  simp only [Nat.zero_add] at p6 p7
  rw [show (((1 : Nat)) : Int) = 1 from rfl] at p3
  clear p1 p2 p4 p5
  generalize q 0 = L at *
  generalize q 1 = E at *
  clear q
  obtain ⟨x, s, b, er, ty⟩ := f
  unfold F.agg at *
  simp only at hf p6 ⊢
  rcases hf with rfl | rfl | rfl | rfl
  case inl =>
    go_enter Tryz.func36, Tryz.ntmps36
    go_wp2_with (first
      | (go_at_call 52; refine (len_any L 1 _ ((World.cell?_alloc_lt _ _ _ g0).trans p3)).mono ?_; rintro e w1 ⟨rfl, rfl⟩)
      | (go_at_call 54; refine (front_any L E 1 (by omega) _ ((World.cell?_alloc_lt _ _ _ g0).trans p3) ((World.cell?_alloc_lt _ _ _ g0).trans p7)).mono ?_; rintro e w1 ⟨rfl, rfl⟩)
      | (go_at_call 56; refine (value_2 _ _ _ _ _).mono ?_; rintro e w1 ⟨rfl, hb1⟩; have hb3 := (Below.alloc (Below.refl (w.heap.size + 1) (w.alloc (.cells #[.string ⟨#[]⟩, .float .f64 0, .string ⟨#[]⟩, .slice none 0 0, .slice none 0 0, .bool false, .string ⟨#[]⟩, .int .u8 0, .pointer none, .pointer none] 69))) (by simp) _).trans (hb1.mono (by simp)); clear hb1)
      | (go_at_call 55; refine (newString_any _ _).mono ?_; rintro e w2 ⟨rfl, hb2⟩; dsimp only [F.agg]; go_must (have hbb : Below (w.heap.size + 1) (w.alloc (.cells #[.string ⟨#[]⟩, .float .f64 0, .string ⟨#[]⟩, .slice none 0 0, .slice none 0 0, .bool false, .string ⟨#[]⟩, .int .u8 0, .pointer none, .pointer none] 69)) w2 := by first | exact hb3.trans (hb2.mono (by have := hb3.size; simpa using this)) | exact (Below.alloc (Below.refl _ _) (by simp) _).trans (hb2.mono (by simp))); obtain ⟨hc2, hf2, hs2⟩ := own_cells hbb; have hbc : Below w.heap.size w w2 := (Below.alloc (Below.refl _ _) (Nat.le_refl _) _).trans (hbb.mono (by omega)); clear hb2 hbb))
    refine bodyPost_ret (v := F.agg (tF ⟨x, s, b, er, _⟩)) ?_ rfl ⟨rfl, ?_⟩
    · first
        | (simp [results, Tryz.results36, go_sem, F.agg, tF, hc2]; done)
        | (simp [results, Tryz.results36, go_sem, F.agg, tF]; done)
    · (repeat' (first | (with_reducible exact Below.refl _ _) | (with_reducible assumption) | (with_reducible refine Below.setCell ?_ ?_ _) | (with_reducible refine Below.alloc ?_ ?_ _) | (with_reducible refine Below.drew ?_) | (with_reducible refine below_drewN ?_ _) | (with_reducible refine Below.trans ?_ (Below.mono (by assumption) ?_)) | (simp <;> omega) | omega))
  case inr.inl =>
    go_enter Tryz.func36, Tryz.ntmps36
    go_wp2_with (first
      | (go_at_call 52; refine (len_any L 1 _ ((World.cell?_alloc_lt _ _ _ g0).trans p3)).mono ?_; rintro e w1 ⟨rfl, rfl⟩)
      | (go_at_call 54; refine (front_any L E 1 (by omega) _ ((World.cell?_alloc_lt _ _ _ g0).trans p3) ((World.cell?_alloc_lt _ _ _ g0).trans p7)).mono ?_; rintro e w1 ⟨rfl, rfl⟩)
      | (go_at_call 56; refine (value_2 _ _ _ _ _).mono ?_; rintro e w1 ⟨rfl, hb1⟩; have hb3 := (Below.alloc (Below.refl (w.heap.size + 1) (w.alloc (.cells #[.string ⟨#[]⟩, .float .f64 0, .string ⟨#[]⟩, .slice none 0 0, .slice none 0 0, .bool false, .string ⟨#[]⟩, .int .u8 0, .pointer none, .pointer none] 69))) (by simp) _).trans (hb1.mono (by simp)); clear hb1)
      | (go_at_call 55; refine (newString_any _ _).mono ?_; rintro e w2 ⟨rfl, hb2⟩; dsimp only [F.agg]; go_must (have hbb : Below (w.heap.size + 1) (w.alloc (.cells #[.string ⟨#[]⟩, .float .f64 0, .string ⟨#[]⟩, .slice none 0 0, .slice none 0 0, .bool false, .string ⟨#[]⟩, .int .u8 0, .pointer none, .pointer none] 69)) w2 := by first | exact hb3.trans (hb2.mono (by have := hb3.size; simpa using this)) | exact (Below.alloc (Below.refl _ _) (by simp) _).trans (hb2.mono (by simp))); obtain ⟨hc2, hf2, hs2⟩ := own_cells hbb; have hbc : Below w.heap.size w w2 := (Below.alloc (Below.refl _ _) (Nat.le_refl _) _).trans (hbb.mono (by omega)); clear hb2 hbb))
    refine bodyPost_ret (v := F.agg (tF ⟨x, s, b, er, _⟩)) ?_ rfl ⟨rfl, ?_⟩
    · first
        | (simp [results, Tryz.results36, go_sem, F.agg, tF, hc2]; done)
        | (simp [results, Tryz.results36, go_sem, F.agg, tF]; done)
    · (repeat' (first | (with_reducible exact Below.refl _ _) | (with_reducible assumption) | (with_reducible refine Below.setCell ?_ ?_ _) | (with_reducible refine Below.alloc ?_ ?_ _) | (with_reducible refine Below.drew ?_) | (with_reducible refine below_drewN ?_ _) | (with_reducible refine Below.trans ?_ (Below.mono (by assumption) ?_)) | (simp <;> omega) | omega))
  case inr.inr.inl =>
    go_enter Tryz.func36, Tryz.ntmps36
    go_wp2_with (first
      | (go_at_call 52; refine (len_any L 1 _ ((World.cell?_alloc_lt _ _ _ g0).trans p3)).mono ?_; rintro e w1 ⟨rfl, rfl⟩)
      | (go_at_call 54; refine (front_any L E 1 (by omega) _ ((World.cell?_alloc_lt _ _ _ g0).trans p3) ((World.cell?_alloc_lt _ _ _ g0).trans p7)).mono ?_; rintro e w1 ⟨rfl, rfl⟩)
      | (go_at_call 56; refine (value_2 _ _ _ _ _).mono ?_; rintro e w1 ⟨rfl, hb1⟩; have hb3 := (Below.alloc (Below.refl (w.heap.size + 1) (w.alloc (.cells #[.string ⟨#[]⟩, .float .f64 0, .string ⟨#[]⟩, .slice none 0 0, .slice none 0 0, .bool false, .string ⟨#[]⟩, .int .u8 0, .pointer none, .pointer none] 69))) (by simp) _).trans (hb1.mono (by simp)); clear hb1)
      | (go_at_call 55; refine (newString_any _ _).mono ?_; rintro e w2 ⟨rfl, hb2⟩; dsimp only [F.agg]; go_must (have hbb : Below (w.heap.size + 1) (w.alloc (.cells #[.string ⟨#[]⟩, .float .f64 0, .string ⟨#[]⟩, .slice none 0 0, .slice none 0 0, .bool false, .string ⟨#[]⟩, .int .u8 0, .pointer none, .pointer none] 69)) w2 := by first | exact hb3.trans (hb2.mono (by have := hb3.size; simpa using this)) | exact (Below.alloc (Below.refl _ _) (by simp) _).trans (hb2.mono (by simp))); obtain ⟨hc2, hf2, hs2⟩ := own_cells hbb; have hbc : Below w.heap.size w w2 := (Below.alloc (Below.refl _ _) (Nat.le_refl _) _).trans (hbb.mono (by omega)); clear hb2 hbb))
    refine bodyPost_ret (v := F.agg (tF ⟨x, s, b, er, _⟩)) ?_ rfl ⟨rfl, ?_⟩
    · first
        | (simp [results, Tryz.results36, go_sem, F.agg, tF, hc2]; done)
        | (simp [results, Tryz.results36, go_sem, F.agg, tF]; done)
    · (repeat' (first | (with_reducible exact Below.refl _ _) | (with_reducible assumption) | (with_reducible refine Below.setCell ?_ ?_ _) | (with_reducible refine Below.alloc ?_ ?_ _) | (with_reducible refine Below.drew ?_) | (with_reducible refine below_drewN ?_ _) | (with_reducible refine Below.trans ?_ (Below.mono (by assumption) ?_)) | (simp <;> omega) | omega))
  case inr.inr.inr =>
    go_enter Tryz.func36, Tryz.ntmps36
    go_wp2_with (first
      | (go_at_call 52; refine (len_any L 1 _ ((World.cell?_alloc_lt _ _ _ g0).trans p3)).mono ?_; rintro e w1 ⟨rfl, rfl⟩)
      | (go_at_call 54; refine (front_any L E 1 (by omega) _ ((World.cell?_alloc_lt _ _ _ g0).trans p3) ((World.cell?_alloc_lt _ _ _ g0).trans p7)).mono ?_; rintro e w1 ⟨rfl, rfl⟩)
      | (go_at_call 56; refine (value_6 _ _ _ _ _).mono ?_; rintro e w1 ⟨rfl, hb1⟩; have hb3 := (Below.alloc (Below.refl (w.heap.size + 1) (w.alloc (.cells #[.string ⟨#[]⟩, .float .f64 0, .string ⟨#[]⟩, .slice none 0 0, .slice none 0 0, .bool false, .string ⟨#[]⟩, .int .u8 0, .pointer none, .pointer none] 69))) (by simp) _).trans (hb1.mono (by simp)); clear hb1)
      | (go_at_call 55; refine (newString_any _ _).mono ?_; rintro e w2 ⟨rfl, hb2⟩; dsimp only [F.agg]; go_must (have hbb : Below (w.heap.size + 1) (w.alloc (.cells #[.string ⟨#[]⟩, .float .f64 0, .string ⟨#[]⟩, .slice none 0 0, .slice none 0 0, .bool false, .string ⟨#[]⟩, .int .u8 0, .pointer none, .pointer none] 69)) w2 := by first | exact hb3.trans (hb2.mono (by have := hb3.size; simpa using this)) | exact (Below.alloc (Below.refl _ _) (by simp) _).trans (hb2.mono (by simp))); obtain ⟨hc2, hf2, hs2⟩ := own_cells hbb; have hbc : Below w.heap.size w w2 := (Below.alloc (Below.refl _ _) (Nat.le_refl _) _).trans (hbb.mono (by omega)); clear hb2 hbb))
    refine bodyPost_ret (v := F.agg (tF ⟨x, s, b, er, _⟩)) ?_ rfl ⟨rfl, ?_⟩
    · first
        | (simp [results, Tryz.results36, go_sem, F.agg, tF, hc2]; done)
        | (simp [results, Tryz.results36, go_sem, F.agg, tF]; done)
    · (repeat' (first | (with_reducible exact Below.refl _ _) | (with_reducible assumption) | (with_reducible refine Below.setCell ?_ ?_ _) | (with_reducible refine Below.alloc ?_ ?_ _) | (with_reducible refine Below.drew ?_) | (with_reducible refine below_drewN ?_ _) | (with_reducible refine Below.trans ?_ (Below.mono (by assumption) ?_)) | (simp <;> omega) | omega))
end Go.Proofs.YtemeamckdfnlfaaGreatDoor
