/- Contracts of the machine's AND: the list's Next, the truth of one argument, AND itself, its door, the thin package's AND. -/
import Derived.Test.YtemeamckdfnlfaaGreatDoorD6
namespace Go.Proofs.YtemeamckdfnlfaaGreatDoor
open Go Go.RowKit Ieee Fl
attribute [local go_sem] run_store_float
theorem cell_block {w : World} {b : Nat} {u : Value} (h : w.cell? ⟨b, 0, none⟩ = some u) (hf : ∀ o, w.frozen? ⟨b, o, none⟩ = false) : ∃ C t lo hi, w.heap[b]? = some (.cells C t (lo, hi)) ∧ ∀ o : Nat, ¬ (lo ≤ o ∧ o < hi) := by
  unfold World.cell? at h
  split at h
  · rename_i c t m hc
    obtain ⟨lo, hi⟩ := m
    refine ⟨c, t, lo, hi, hc, fun o ho => ?_⟩
    have := hf o
    unfold World.frozen? at this
    rw [show w.heap[(⟨b, o, none⟩ : Addr).block]? = some (.cells c t (lo, hi)) from hc] at this
    simp at this
    omega
  · cases h
theorem run_sameAddr_far {P : Program} {w : World} {a b : Nat} {u v : Value} (hne : a ≠ b) (ha : w.cell? ⟨a, 0, none⟩ = some u) (hb : w.cell? ⟨b, 0, none⟩ = some v) (hfa : ∀ o, w.frozen? ⟨a, o, none⟩ = false) (hfb : ∀ o, w.frozen? ⟨b, o, none⟩ = false) :
    (sameAddr ⟨a, 0, none⟩ ⟨b, 0, none⟩).run P w = .ok false w := by
  obtain ⟨C, t, lo, hi, h1, -⟩ := cell_block ha hfa
  obtain ⟨C', t', lo', hi', h1', -⟩ := cell_block hb hfb
  simp [sameAddr, hne, hfa, hfb, noView, viewAt, World.shape?, h1, h1', mayBeOne, stringish]
theorem run_neq_ptr_far {P : Program} {w : World} {tp te : TypeId} {j : TypeInfo} {a b : Nat} {u v : Value} (hp : P.underlying tp = some (.pointer te)) (hte : P.info? te = some j) (hsz : j.size ≠ 0)
    (hne : a ≠ b) (ha : w.cell? ⟨a, 0, none⟩ = some u) (hb : w.cell? ⟨b, 0, none⟩ = some v) (hfa : ∀ o, w.frozen? ⟨a, o, none⟩ = false) (hfb : ∀ o, w.frozen? ⟨b, o, none⟩ = false) :
    (binOp .neq tp (.pointer (some ⟨a, 0, none⟩)) (.pointer (some ⟨b, 0, none⟩))).run P w = .ok (.bool true) w := by
  have h : ∀ d : Nat, (Op.equalIn (d + 1) tp (.pointer (some ⟨a, 0, none⟩)) (.pointer (some ⟨b, 0, none⟩))).run P w = .ok false w := fun d => by
    simp [Op.equalIn, run_underlying hp, sizeOf, typeInfo, hte, hsz, run_sameAddr_far hne ha hb hfa hfb]
  simp only [binOp]
  simp [Op.equal, Op.maxDepth, h 9999]
theorem run_neq_ptr_one {P : Program} {w : World} {tp te : TypeId} {j : TypeInfo} {a : Nat} (hp : P.underlying tp = some (.pointer te)) (hte : P.info? te = some j) :
    (binOp .neq tp (.pointer (some ⟨a, 0, none⟩)) (.pointer (some ⟨a, 0, none⟩))).run P w = .ok (.bool false) w := by
  have h : ∀ d : Nat, (Op.equalIn (d + 1) tp (.pointer (some ⟨a, 0, none⟩)) (.pointer (some ⟨a, 0, none⟩))).run P w = .ok true w := fun d => by
    simp [Op.equalIn, run_underlying hp, sizeOf, typeInfo, hte, sameAddr]
  simp only [binOp]
  simp [Op.equal, Op.maxDepth, h 9999]
theorem info88 : (Tryz.prog.info? 88).map (fun i => (i.zero, i.size, i.bytes)) = some (some (.agg #[.pointer none, .pointer none, .pointer none, .nilIface]), 4, 40) := by kernel_rfl

set_option maxRecDepth 100000 in
/-- list.Element's Next behind the last one. -/
theorem next_last (E L : Nat) (w : World) (h0 : w.cell? ⟨E, 0, none⟩ = some (.pointer (some ⟨L, 0, none⟩))) (h2 : w.cell? ⟨E, 2, none⟩ = some (.pointer (some ⟨L, 0, none⟩))) :
    Calls Tryz.prog 60 #[.pointer (some ⟨E, 0, none⟩)] w fun e w' => e = .returned (.pointer none) ∧ w = w' := by
  obtain ⟨i0, hi, hz0, hz1, hz2⟩ := info_parts info88
  have hcmp := run_neq_ptr_one (P := Tryz.prog) (w := w) (a := L) Tryz.underlying86 hi
  go_enter Tryz.func60, Tryz.ntmps60
  go_wp2_with fail
  go_ret
  exact ⟨rfl, rfl⟩
set_option maxRecDepth 100000 in
/-- list.Element's Next ahead of another one. -/
theorem next_more (E L Q : Nat) (w : World) (hne : Q ≠ L) (h0 : w.cell? ⟨E, 0, none⟩ = some (.pointer (some ⟨Q, 0, none⟩))) (h2 : w.cell? ⟨E, 2, none⟩ = some (.pointer (some ⟨L, 0, none⟩)))
    (u v : Value) (hQ : w.cell? ⟨Q, 0, none⟩ = some u) (hL : w.cell? ⟨L, 0, none⟩ = some v) (hfQ : ∀ o, w.frozen? ⟨Q, o, none⟩ = false) (hfL : ∀ o, w.frozen? ⟨L, o, none⟩ = false) :
    Calls Tryz.prog 60 #[.pointer (some ⟨E, 0, none⟩)] w fun e w' => e = .returned (.pointer (some ⟨Q, 0, none⟩)) ∧ w = w' := by
  obtain ⟨i0, hi, hz0, hz1, hz2⟩ := info_parts info88
  have hcmp := run_neq_ptr_far (P := Tryz.prog) (w := w) Tryz.underlying86 hi (by omega) hne hQ hL hfQ hfL
  go_enter Tryz.func60, Tryz.ntmps60
  go_wp2_with fail
  go_ret
  exact ⟨rfl, rfl⟩
/-- A number is not 0. -/
def yes (x : Nat) : Bool := FloatKind.f64.format.order x 0 != some .eq
set_option maxRecDepth 100000 in
theorem and_any (a : Addr) (f : F) (hf : f.ty = 1) (w : World) : Calls Tryz.prog 61 #[.pointer (some a), f.agg] w fun e w' => e = .returned (F.agg ⟨oneOf (yes f.x), ⟨#[]⟩, true, ⟨#[]⟩, 1⟩) ∧ Below w.heap.size w w' := by
  obtain ⟨x, s, b, er, ty⟩ := f
  unfold F.agg
  simp only at hf
  subst hf
  go_enter Tryz.func61, Tryz.ntmps61
  go_wp2_with (go_at_call 62; rw [show (FloatKind.f64.format.order x 0 != some .eq) = yes x from rfl]; refine (newBool_any (yes x) _).mono ?_; rintro e w1 ⟨rfl, hb⟩; dsimp only [F.agg]; obtain ⟨hc, hf⟩ := bcell hb; have hz : w.heap.size + 1 < w1.heap.size := by (have := hb.size; simp at this; omega))
  refine bodyPost_ret (v := F.agg ⟨oneOf (yes x), ⟨#[]⟩, true, ⟨#[]⟩, 1⟩) ?_ rfl ⟨rfl, ?_⟩
  · simp [results, Tryz.results61, go_sem, F.agg, hc]
  · (repeat' (first | (with_reducible exact Below.refl _ _) | (with_reducible assumption) | (with_reducible refine Below.setCell ?_ ?_ _) | (with_reducible refine Below.alloc ?_ ?_ _) | (with_reducible refine Below.drew ?_) | (with_reducible refine below_drewN ?_ _) | (with_reducible refine Below.trans ?_ (Below.mono (by assumption) ?_)) | (simp <;> omega) | omega))
theorem order_one : FloatKind.f64.format.order 4607182418800017408 0 = some .gt := by decide
theorem order_zero : FloatKind.f64.format.order 0 0 = some .eq := by decide
end Go.Proofs.YtemeamckdfnlfaaGreatDoor
