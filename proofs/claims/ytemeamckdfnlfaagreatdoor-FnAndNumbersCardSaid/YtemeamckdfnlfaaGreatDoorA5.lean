/- The machine's AND: its door, the thin package's AND. -/
import Derived.Test.YtemeamckdfnlfaaGreatDoorA4
namespace Go.Proofs.YtemeamckdfnlfaaGreatDoor
open Go Go.RowKit Ieee Fl
attribute [local go_sem] run_store_float
/-- Values that AND takes. -/
def AndI (v : I) : Prop := OkI v ∧ (argOf v).ty = 1
set_option maxRecDepth 100000 in
set_option maxHeartbeats 1000000 in
theorem doorAND_any (vs : List I) (hv : ∀ v ∈ vs, AndI v) (A : Option Addr) (n c : Nat) (hn0 : 0 < n) (hn : n ≤ 30) (w : World) (hr : Rd w w.heap.size 4 A n (cellsI vs)) :
    Calls Tryz.prog 29 #[.slice A n c] w fun e w' => e = .returned (valOf (andF (vs.map argOf))).agg' ∧ Below w.heap.size w w' := by
  have HR := hide hr
  have HV := hide hv
  clear hr hv
  go_enter Tryz.func29, Tryz.ntmps29
  go_wp2_with fail
  refine (doorFuncs_any _).mono ?_
  rintro e w1 ⟨⟨a, rfl⟩, hb1⟩
  have hs1 := hb1.size
  have hb1' : Below w.heap.size w w1 := by (repeat' (first | (with_reducible exact Below.refl _ _) | (with_reducible assumption) | (with_reducible refine Below.setCell ?_ ?_ _) | (with_reducible refine Below.alloc ?_ ?_ _) | (with_reducible refine Below.drew ?_) | (with_reducible refine below_drewN ?_ _) | (with_reducible refine Below.trans ?_ (Below.mono (by assumption) ?_)) | (simp <;> omega) | omega))
  go_wp2_with fail
  refine (innerList_any vs (fun u hu => (HV.out u hu).1) A n c (by omega) _ ((HR.out.below hb1').more hb1'.size)).mono ?_
  rintro e w2 ⟨q, rfl, hq, hch, hb2⟩
  have hs2 := hb2.size
  have HC := hide hch
  clear hch
  go_wp2_with fail
  refine (AND_any a q n hn0 hn (vs.map argOf) (fun f hf => by obtain ⟨v, h1, rfl⟩ := List.mem_map.1 hf; exact (HV.out v h1).2) _ HC.out).mono ?_
  rintro e w3 ⟨rfl, hb3⟩
  have hs3 := hb3.size
  go_wp2_with fail
  refine (doorArg_any (andF (vs.map argOf)) (.inl rfl) _).mono ?_
  rintro e w4 ⟨rfl, hb4⟩
  have hs4 := hb4.size
  have k1 : w.heap.size + 1 ≤ w1.heap.size := by have := hb1.size; simpa using this
  have hp1 : Below (w.heap.size + 1) (w.alloc (.cells #[.int .i64 0, .float .f64 0, .string ⟨#[]⟩, .slice none 0 0] 53)) w1 := hb1.mono (by simp)
  have hb := ((hp1.trans (hb2.mono k1)).trans (hb3.mono (by omega))).trans (hb4.mono (by omega))
  obtain ⟨hc, hf, hz⟩ := own_cells hb
  have hb' : Below w.heap.size w w4 := (Below.alloc (Below.refl _ _) (Nat.le_refl _) _).trans (hb.mono (by omega))
  clear hb1 hb2 hb3 hb4 hb HC HR
  unfold I.agg'
  go_wp2_with fail
  refine bodyPost_ret (v := (valOf (andF (vs.map argOf))).agg') ?_ rfl ⟨rfl, ?_⟩
  · simp [results, Tryz.results29, go_sem, I.agg', hc]
  · (repeat' (first | (with_reducible exact Below.refl _ _) | (with_reducible assumption) | (with_reducible refine Below.setCell ?_ ?_ _) | (with_reducible refine Below.alloc ?_ ?_ _) | (with_reducible refine Below.drew ?_) | (with_reducible refine below_drewN ?_ _) | (with_reducible refine Below.trans ?_ (Below.mono (by assumption) ?_)) | (simp <;> omega) | omega))
set_option maxRecDepth 100000 in
set_option maxHeartbeats 1000000 in
theorem implAND_any (vs : List I) (hv : ∀ v ∈ vs, AndI v) (A : Option Addr) (n c : Nat) (hn0 : 0 < n) (hn : n ≤ 30) (w : World) (hr : Rd w w.heap.size 4 A n (cellsI vs)) :
    Calls Tryz.prog 13 #[.slice A n c] w fun e w' => e = .returned (valOf (andF (vs.map argOf))).agg' ∧ Below w.heap.size w w' := by
  have HR := hide hr
  have HV := hide hv
  clear hr hv
  go_enter Tryz.func13, Tryz.ntmps13
  go_wp2_with fail
  refine (in_any vs A n c (by omega) _ ((HR.out.alloc (Nat.le_refl _) _).more (by simp))).mono ?_
  rintro e w1 ⟨A1, c1, rfl, hown, hb1⟩
  have hs1 := hb1.size
  have HO := hide (Rd.of_own hown)
  clear hown
  go_wp2_with fail
  refine (doorAND_any vs HV.out A1 n c1 hn0 hn _ HO.out).mono ?_
  rintro e w2 ⟨rfl, hb2⟩
  have hs2 := hb2.size
  unfold I.agg'
  go_wp2_with fail
  refine (out_any _ _ _ _).mono ?_
  rintro e w3 ⟨rfl, hb3⟩
  have hs3 := hb3.size
  have k1 : w.heap.size + 1 ≤ w1.heap.size := by have := hb1.size; simpa using this
  have hp1 : Below (w.heap.size + 1) (w.alloc (.cells #[.int .i64 0, .float .f64 0, .string ⟨#[]⟩, .slice none 0 0] 47)) w1 := hb1.mono (by simp)
  have hb := (hp1.trans (hb2.mono k1)).trans (hb3.mono (by omega))
  obtain ⟨hc, hf, hz⟩ := own_cells hb
  have hb' : Below w.heap.size w w3 := (Below.alloc (Below.refl _ _) (Nat.le_refl _) _).trans (hb.mono (by omega))
  clear hb1 hb2 hb3 hb HO HR
  go_wp2_with fail
  refine bodyPost_ret (v := (valOf (andF (vs.map argOf))).agg') ?_ rfl ⟨rfl, ?_⟩
  · simp [results, Tryz.results13, go_sem, I.agg', hc]
  · (repeat' (first | (with_reducible exact Below.refl _ _) | (with_reducible assumption) | (with_reducible refine Below.setCell ?_ ?_ _) | (with_reducible refine Below.alloc ?_ ?_ _) | (with_reducible refine Below.drew ?_) | (with_reducible refine below_drewN ?_ _) | (with_reducible refine Below.trans ?_ (Below.mono (by assumption) ?_)) | (simp <;> omega) | omega))
end Go.Proofs.YtemeamckdfnlfaaGreatDoor
