/- Contracts of list.Element's Next over a chain. -/
import Derived.Test.YtjcnnjknhemimaaGreatDoorD4
namespace Go.Proofs.YtjcnnjknhemimaaGreatDoor
open Go Go.RowKit
attribute [local go_sem] run_store_float
theorem cell_block {w : World} {b : Nat} {u : Value} (h : w.cell? ⟨b, 0, none⟩ = some u) (hf : ∀ o, w.frozen? ⟨b, o, none⟩ = false) : ∃ C t lo hi, w.heap[b]? = some (.cells C t (lo, hi)) ∧ ∀ o : Nat, ¬ (lo ≤ o ∧ o < hi) := by
  unfold World.cell? at h
  split at h
  · rename_i c t m hc
    obtain ⟨lo, hi⟩ := m
    refine ⟨c, t, lo, hi, hc, fun o ho => ?_⟩
    have := hf o
    unfold World.frozen? at this
    rw [show w.heap[(⟨b, o, none⟩ : Addr).block]? = some (.cells c t (lo, hi)) from hc] at this
    simp at this
    omega
  · cases h
theorem run_sameAddr_far {P : Program} {w : World} {a b : Nat} {u v : Value} (hne : a ≠ b) (ha : w.cell? ⟨a, 0, none⟩ = some u) (hb : w.cell? ⟨b, 0, none⟩ = some v) (hfa : ∀ o, w.frozen? ⟨a, o, none⟩ = false) (hfb : ∀ o, w.frozen? ⟨b, o, none⟩ = false) :
    (sameAddr ⟨a, 0, none⟩ ⟨b, 0, none⟩).run P w = .ok false w := by
  obtain ⟨C, t, lo, hi, h1, -⟩ := cell_block ha hfa
  obtain ⟨C', t', lo', hi', h1', -⟩ := cell_block hb hfb
  simp [sameAddr, hne, hfa, hfb, noView, viewAt, World.shape?, h1, h1', mayBeOne, stringish]
theorem run_neq_ptr_far {P : Program} {w : World} {tp te : TypeId} {j : TypeInfo} {a b : Nat} {u v : Value} (hp : P.underlying tp = some (.pointer te)) (hte : P.info? te = some j) (hsz : j.size ≠ 0)
    (hne : a ≠ b) (ha : w.cell? ⟨a, 0, none⟩ = some u) (hb : w.cell? ⟨b, 0, none⟩ = some v) (hfa : ∀ o, w.frozen? ⟨a, o, none⟩ = false) (hfb : ∀ o, w.frozen? ⟨b, o, none⟩ = false) :
    (binOp .neq tp (.pointer (some ⟨a, 0, none⟩)) (.pointer (some ⟨b, 0, none⟩))).run P w = .ok (.bool true) w := by
  have h : ∀ d : Nat, (Op.equalIn (d + 1) tp (.pointer (some ⟨a, 0, none⟩)) (.pointer (some ⟨b, 0, none⟩))).run P w = .ok false w := fun d => by
    simp [Op.equalIn, run_underlying hp, sizeOf, typeInfo, hte, hsz, run_sameAddr_far hne ha hb hfa hfb]
  simp only [binOp]
  simp [Op.equal, Op.maxDepth, h 9999]
theorem run_neq_ptr_one {P : Program} {w : World} {tp te : TypeId} {j : TypeInfo} {a : Nat} (hp : P.underlying tp = some (.pointer te)) (hte : P.info? te = some j) :
    (binOp .neq tp (.pointer (some ⟨a, 0, none⟩)) (.pointer (some ⟨a, 0, none⟩))).run P w = .ok (.bool false) w := by
  have h : ∀ d : Nat, (Op.equalIn (d + 1) tp (.pointer (some ⟨a, 0, none⟩)) (.pointer (some ⟨a, 0, none⟩))).run P w = .ok true w := fun d => by
    simp [Op.equalIn, run_underlying hp, sizeOf, typeInfo, hte, sameAddr]
  simp only [binOp]
  simp [Op.equal, Op.maxDepth, h 9999]
theorem info88 : (Tryz.prog.info? 82).map (fun i => (i.zero, i.size, i.bytes)) = some (some (.agg #[.pointer none, .pointer none, .pointer none, .nilIface]), 4, 40) := by kernel_rfl

set_option maxRecDepth 100000 in
/-- list.Element's Next behind the last one. -/
theorem next_last (E L : Nat) (w : World) (h0 : w.cell? ⟨E, 0, none⟩ = some (.pointer (some ⟨L, 0, none⟩))) (h2 : w.cell? ⟨E, 2, none⟩ = some (.pointer (some ⟨L, 0, none⟩))) :
    Calls Tryz.prog 46 #[.pointer (some ⟨E, 0, none⟩)] w fun e w' => e = .returned (.pointer none) ∧ w = w' := by
  obtain ⟨i0, hi, hz0, hz1, hz2⟩ := info_parts info88
  have hcmp := run_neq_ptr_one (P := Tryz.prog) (w := w) (a := L) Tryz.underlying71 hi
  go_enter Tryz.func46, Tryz.ntmps46
  go_wp2_with fail
  go_ret
  exact ⟨rfl, rfl⟩
set_option maxRecDepth 100000 in
/-- list.Element's Next ahead of another one. -/
theorem next_more (E L Q : Nat) (w : World) (hne : Q ≠ L) (h0 : w.cell? ⟨E, 0, none⟩ = some (.pointer (some ⟨Q, 0, none⟩))) (h2 : w.cell? ⟨E, 2, none⟩ = some (.pointer (some ⟨L, 0, none⟩)))
    (u v : Value) (hQ : w.cell? ⟨Q, 0, none⟩ = some u) (hL : w.cell? ⟨L, 0, none⟩ = some v) (hfQ : ∀ o, w.frozen? ⟨Q, o, none⟩ = false) (hfL : ∀ o, w.frozen? ⟨L, o, none⟩ = false) :
    Calls Tryz.prog 46 #[.pointer (some ⟨E, 0, none⟩)] w fun e w' => e = .returned (.pointer (some ⟨Q, 0, none⟩)) ∧ w = w' := by
  obtain ⟨i0, hi, hz0, hz1, hz2⟩ := info_parts info88
  have hcmp := run_neq_ptr_far (P := Tryz.prog) (w := w) Tryz.underlying71 hi (by omega) hne hQ hL hfQ hfL
  go_enter Tryz.func46, Tryz.ntmps46
  go_wp2_with fail
  go_ret
  exact ⟨rfl, rfl⟩
theorem next_chain_more (q : Nat → Nat) (n : Nat) (fs : List Value) (w : World) (h : Chain w n q fs) (k : Nat) (hk : k + 1 < n) :
    Calls Tryz.prog 46 #[.pointer (some ⟨q (k + 1), 0, none⟩)] w fun e w' => e = .returned (.pointer (some ⟨q (k + 1 + 1), 0, none⟩)) ∧ w = w' := by
  obtain ⟨p1, p2, p3, p4, p5⟩ := h
  have a1 := (p1 (k + 1) (by omega)).2.2.2
  rw [if_pos hk] at a1
  have a2 := p1 (k + 1 + 1) (by omega)
  have a0 := p1 0 (by omega)
  have hne : q (k + 1 + 1) ≠ q 0 := by have := a2.2.2.1 0 (by omega); omega
  exact next_more (q (k + 1)) (q 0) (q (k + 1 + 1)) w hne a1 (p5 k (by omega)).1 _ _ a2.2.2.2 a0.2.2.2 a2.2.1 a0.2.1
theorem next_chain_last (q : Nat → Nat) (n : Nat) (fs : List Value) (w : World) (h : Chain w n q fs) (k : Nat) (hk : k + 1 = n) :
    Calls Tryz.prog 46 #[.pointer (some ⟨q (k + 1), 0, none⟩)] w fun e w' => e = .returned (.pointer none) ∧ w = w' := by
  obtain ⟨p1, p2, p3, p4, p5⟩ := h
  have a1 := (p1 (k + 1) (by omega)).2.2.2
  rw [if_neg (by omega)] at a1
  exact next_last (q (k + 1)) (q 0) w a1 (p5 k (by omega)).1
end Go.Proofs.YtjcnnjknhemimaaGreatDoor
