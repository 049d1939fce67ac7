/- Contracts of the package's doors: the list of arguments, the way back, T. -/
import Derived.Test.YtoglgdapaonioaaGreatDoorD2
namespace Go.Proofs.YtoglgdapaonioaaGreatDoor
open Go Go.RowKit
attribute [local go_sem] run_store_float
theorem below_push {B : Nat} {a w : World} {L P : Nat} (h : Below B a w) (hL : B ≤ L) (hP : B ≤ P) (hB : B ≤ w.heap.size) (u1 u2 u3 : Value) (o : Obj) :
    Below B a ((((w.setCell ⟨P, 0, none⟩ u1).setCell ⟨L, 1, none⟩ u2).setCell ⟨L, 4, none⟩ u3).alloc o) :=
  (((h.setCell hP _).setCell hL _).setCell hL _).alloc (by simpa using hB) _
set_option maxRecDepth 100000 in
set_option maxHeartbeats 2000000 in
theorem innerList_any (vs : List I) (hok : ∀ v ∈ vs, OkI v) (A : Option Addr) (n c : Nat) (hn : n ≤ 1000) (w : World) (hr : Rd w w.heap.size 4 A n (cellsI vs)) :
    Calls Tryz.prog 27 #[.slice A n c] w fun e w' => ∃ q, e = .returned (.pointer (some ⟨q 0, 0, none⟩)) ∧ w.heap.size ≤ q 0 ∧ Chain w' n q (vs.map argOf) ∧ Below w.heap.size w w' := by
  have HR := hide hr
  have HK := hide hok
  have hl : vs.length = n := by have := hr.1; rw [cellsI_length] at this; omega
  clear hr hok
  go_enter Tryz.func27, Tryz.ntmps27
  go_wp2_with fail
  refine (new_any _).mono ?_
  rintro e w1 ⟨rfl, rfl⟩
  go_wp2_with fail
  go_loopw [9] (fun i wr => ∃ (k : Nat) (q : Nat → Nat), k ≤ n ∧ i = .int .i64 k ∧ q 0 = w.heap.size ∧ Hid (Chain wr k q ((vs.take k).map argOf)) ∧ Below w.heap.size w wr) (fun i _ => n - (intOf i).toNat)
  case atStart =>
    refine ⟨0, fun _ => w.heap.size, by omega, rfl, rfl, hide ⟨fun i hi => ⟨by simp, fun o => by simp, fun j hj => by omega, by simp⟩, by simp, by simp, by simp, fun i hi => by omega⟩, by (repeat' (first | (with_reducible exact Below.refl _ _) | (with_reducible assumption) | (with_reducible refine Below.setCell ?_ ?_ _) | (with_reducible refine Below.alloc ?_ ?_ _) | (with_reducible refine Below.drew ?_) | (with_reducible refine below_drewN ?_ _) | (with_reducible refine Below.trans ?_ (Below.mono (by assumption) ?_)) | (simp <;> omega) | omega))⟩
  case round =>
    obtain ⟨k, q, hk, rfl, hq0, hch, hb⟩ := hrel
    by_cases hlt : k < n
    · obtain ⟨g, kk, x, t, rfl, hg, hv, h0, h1, h2, h3⟩ := rdI (HR.out.below hb) k hlt
      have hz := hb.size
      have HO := hide (innerArg_any ⟨kk, x, t⟩ (HK.out _ (List.mem_of_getElem? hv)))
      have HV := hide hv
      clear hv
      go_wp2_with fail
      refine (HO.out _).mono ?_
      rintro e w1 ⟨rfl, hb1⟩
      have hch1 : Chain w1 k q ((vs.take k).map argOf) := hch.out.below ((Below.alloc (Below.refl _ _) (Nat.le_refl _) _).trans (hb1.mono (by simp)))
      have hb2 : Below w.heap.size w w1 := (hb.alloc hz _).trans (hb1.mono (by simp; omega))
      have hc1 := hide hch1
      obtain ⟨p1, p2, p3, p4, p5⟩ := hch1
      have HPu := hide (push_any (q 0) (q k) _ k (argOf ⟨kk, x, t⟩).agg 57 (by omega) w1 (p1 0 (by omega)).1 (p1 k (by omega)).1 (p1 0 (by omega)).2.2.2 p2 p3 (by rw [(p1 k (by omega)).2.2.2, if_neg (Nat.lt_irrefl _)]) (p1 0 (by omega)).2.1 (p1 k (by omega)).2.1)
      have hqk : w.heap.size ≤ q k := by
        rcases Nat.eq_zero_or_pos k with h | h
        · subst h; omega
        · have := (p1 k (by omega)).2.2.1 0 h; omega
      clear p1 p2 p3 p4 p5
      rw [hq0] at HPu
      go_wp2_with fail
      refine HPu.out.mono ?_
      rintro e w2 ⟨⟨u, rfl⟩, rfl⟩
      go_wp2_with fail
      go_roundw
      case rel =>
        refine ⟨k + 1, fun i => if i = k + 1 then w1.heap.size else q i, by omega, by go_num, by simp [hq0], hide ?_, below_push hb2 (Nat.le_refl _) hqk hb2.size _ _ _ _⟩
        have := hc1.out.push (argOf ⟨kk, x, t⟩)
        rw [hq0] at this
        rw [List.take_add_one, HV.out]
        simpa using this
      case measure => simp [intOf]; omega
    · obtain rfl : k = n := by omega
      go_wp2_with fail
      go_ret
      refine ⟨q, ?_, by omega, ?_, hb⟩
      · rw [hq0]; rfl
      · have e : vs.take vs.length = vs := List.take_length
        have h' := hch.out
        rwa [← hl, e, hl] at h'
end Go.Proofs.YtoglgdapaonioaaGreatDoor
