/- Contracts of container/list: New, PushBack. -/
import Derived.Test.YtjcnnjknhemimaaGreatDoorD1
namespace Go.Proofs.YtjcnnjknhemimaaGreatDoor
open Go Go.RowKit
set_option maxRecDepth 100000 in
theorem new_any (w : World) : Calls Tryz.prog 35 #[] w fun e w' => e = .returned (.pointer (some ⟨w.heap.size, 0, none⟩)) ∧ w' = w.alloc (.cells #[.pointer (some ⟨w.heap.size, 0, none⟩), .pointer (some ⟨w.heap.size, 0, none⟩), .pointer none, .nilIface, .int .i64 0] 89) := by
  go_enter Tryz.func35, Tryz.ntmps35
  go_wp2_with go_in
  go_ret
  exact ⟨rfl, rfl⟩
theorem lazy_any (L p0 : Nat) (w : World) (h0 : w.cell? ⟨L, 0, none⟩ = some (.pointer (some ⟨p0, 0, none⟩))) : Calls Tryz.prog 54 #[.pointer (some ⟨L, 0, none⟩)] w fun e w' => (∃ v, e = .returned v) ∧ w = w' := by
  go_enter Tryz.func54, Tryz.ntmps54
  go_wp2_with fail
  exact bodyPost_end (v := .tuple #[]) (by simp [results, Tryz.results54, go_sem]) rfl ⟨⟨_, rfl⟩, rfl⟩
set_option maxRecDepth 100000 in
set_option maxHeartbeats 2000000 in
theorem push_any (L P p0 n : Nat) (v : Value) (tv : TypeId) (hn : n ≤ 1000) (w : World) (hL : L < w.heap.size) (hP : P < w.heap.size) (h0 : w.cell? ⟨L, 0, none⟩ = some (.pointer (some ⟨p0, 0, none⟩))) (h1 : w.cell? ⟨L, 1, none⟩ = some (.pointer (some ⟨P, 0, none⟩)))
    (h4 : w.cell? ⟨L, 4, none⟩ = some (.int .i64 n)) (hn0 : w.cell? ⟨P, 0, none⟩ = some (.pointer (some ⟨L, 0, none⟩))) (hfL : ∀ o, w.frozen? ⟨L, o, none⟩ = false) (hfP : ∀ o, w.frozen? ⟨P, o, none⟩ = false) :
    Calls Tryz.prog 36 #[.pointer (some ⟨L, 0, none⟩), .iface tv v] w fun e w' => (∃ u, e = .returned u) ∧ w' =
      (((w.setCell ⟨P, 0, none⟩ (.pointer (some ⟨w.heap.size, 0, none⟩))).setCell ⟨L, 1, none⟩ (.pointer (some ⟨w.heap.size, 0, none⟩))).setCell ⟨L, 4, none⟩ (.int .i64 ((n : Int) + 1))).alloc (.cells #[.pointer (some ⟨L, 0, none⟩), .pointer (some ⟨P, 0, none⟩), .pointer (some ⟨L, 0, none⟩), .iface tv v] 82) := by
  go_enter Tryz.func36, Tryz.ntmps36
  go_wp2_with (first | (go_at_call 54; refine (lazy_any _ p0 _ h0).mono ?_; rintro e w1 ⟨⟨_, rfl⟩, rfl⟩) | go_in)
  go_ret
  exact ⟨⟨_, rfl⟩, rfl⟩

/-! ### The list as a chain of blocks: q 0 is the list's own block, q (i + 1) the block of the i-th element. -/
def Chain (w : World) (n : Nat) (q : Nat → Nat) (fs : List Value) : Prop :=
  (∀ i, i ≤ n → q i < w.heap.size ∧ (∀ o, w.frozen? ⟨q i, o, none⟩ = false) ∧ (∀ j, j < i → q j < q i) ∧ w.cell? ⟨q i, 0, none⟩ = some (.pointer (some ⟨if i < n then q (i + 1) else q 0, 0, none⟩))) ∧
  w.cell? ⟨q 0, 1, none⟩ = some (.pointer (some ⟨q n, 0, none⟩)) ∧ w.cell? ⟨q 0, 4, none⟩ = some (.int .i64 n) ∧ fs.length = n ∧
  ∀ i, i < n → w.cell? ⟨q (i + 1), 2, none⟩ = some (.pointer (some ⟨q 0, 0, none⟩)) ∧ ∃ f, fs[i]? = some f ∧ w.cell? ⟨q (i + 1), 3, none⟩ = some (.iface 55 f)
theorem Chain.below {w w' : World} {n : Nat} {q : Nat → Nat} {fs : List Value} (h : Chain w n q fs) (hb : Below w.heap.size w w') : Chain w' n q fs := by
  obtain ⟨h1, h2, h3, h4, h5⟩ := h
  have hc : ∀ i, i ≤ n → ∀ o, w'.cell? ⟨q i, o, none⟩ = w.cell? ⟨q i, o, none⟩ := fun i hi o => hb.cell (p := ⟨q i, o, none⟩) (h1 i hi).1
  have hf : ∀ i, i ≤ n → ∀ o, w'.frozen? ⟨q i, o, none⟩ = w.frozen? ⟨q i, o, none⟩ := fun i hi o => hb.frozen (p := ⟨q i, o, none⟩) (h1 i hi).1
  refine ⟨fun i hi => ⟨Nat.lt_of_lt_of_le (h1 i hi).1 hb.size, fun o => (hf i hi o).trans ((h1 i hi).2.1 o), (h1 i hi).2.2.1, (hc i hi 0).trans (h1 i hi).2.2.2⟩, (hc 0 (by omega) 1).trans h2, (hc 0 (by omega) 4).trans h3, h4, fun i hi => ?_⟩
  obtain ⟨a, f, b, c⟩ := h5 i hi
  exact ⟨(hc _ (by omega) 2).trans a, f, b, (hc _ (by omega) 3).trans c⟩
theorem cell_set {w : World} {a : Addr} {v u : Value} (h : w.cell? a = some u) (b : Addr) : (w.setCell a v).cell? b = if b = a then some v else w.cell? b := by
  by_cases e : b = a
  · subst e
    rw [if_pos rfl, World.cell?_setCell_same (h := h)]
  · rw [if_neg e, World.cell?_setCell_other w a b v (fun h => e h.symm)]
theorem Chain.push {w : World} {n : Nat} {q : Nat → Nat} {fs : List Value} (h : Chain w n q fs) (f : Value) :
    Chain ((((w.setCell ⟨q n, 0, none⟩ (.pointer (some ⟨w.heap.size, 0, none⟩))).setCell ⟨q 0, 1, none⟩ (.pointer (some ⟨w.heap.size, 0, none⟩))).setCell ⟨q 0, 4, none⟩ (.int .i64 ((n : Int) + 1))).alloc (.cells #[.pointer (some ⟨q 0, 0, none⟩), .pointer (some ⟨q n, 0, none⟩), .pointer (some ⟨q 0, 0, none⟩), .iface 55 f] 82)) (n + 1) (fun i => if i = n + 1 then w.heap.size else q i) (fs ++ [f]) := by
  obtain ⟨h1, h2, h3, h4, h5⟩ := h
  have hs : ∀ (a : Addr), a.block < w.heap.size → ((((w.setCell ⟨q n, 0, none⟩ (.pointer (some ⟨w.heap.size, 0, none⟩))).setCell ⟨q 0, 1, none⟩ (.pointer (some ⟨w.heap.size, 0, none⟩))).setCell ⟨q 0, 4, none⟩ (.int .i64 ((n : Int) + 1))).alloc (.cells #[.pointer (some ⟨q 0, 0, none⟩), .pointer (some ⟨q n, 0, none⟩), .pointer (some ⟨q 0, 0, none⟩), .iface 55 f] 82)).cell? a =
      if a = ⟨q 0, 4, none⟩ then some (.int .i64 ((n : Int) + 1)) else if a = ⟨q 0, 1, none⟩ then some (.pointer (some ⟨w.heap.size, 0, none⟩)) else if a = ⟨q n, 0, none⟩ then some (.pointer (some ⟨w.heap.size, 0, none⟩)) else w.cell? a := by
    intro a ha
    rw [World.cell?_alloc_lt _ _ _ (by simpa using ha)]
    have e1 := fun b => cell_set (v := .pointer (some ⟨w.heap.size, 0, none⟩)) (h1 n (Nat.le_refl _)).2.2.2 b
    obtain ⟨u2, g2⟩ : ∃ u, (w.setCell ⟨q n, 0, none⟩ (.pointer (some ⟨w.heap.size, 0, none⟩))).cell? ⟨q 0, 1, none⟩ = some u := by
      rw [e1, if_neg (by simp)]; exact ⟨_, h2⟩
    have e2 := fun b => cell_set (v := .pointer (some ⟨w.heap.size, 0, none⟩)) g2 b
    obtain ⟨u3, g3⟩ : ∃ u, ((w.setCell ⟨q n, 0, none⟩ (.pointer (some ⟨w.heap.size, 0, none⟩))).setCell ⟨q 0, 1, none⟩ (.pointer (some ⟨w.heap.size, 0, none⟩))).cell? ⟨q 0, 4, none⟩ = some u := by
      rw [e2, if_neg (by simp), e1, if_neg (by simp)]; exact ⟨_, h3⟩
    rw [cell_set g3, e2, e1]
  have hq : ∀ i, i ≤ n → (if i = n + 1 then w.heap.size else q i) = q i := fun i hi => if_neg (by omega)
  have hsz : ((((w.setCell ⟨q n, 0, none⟩ (.pointer (some ⟨w.heap.size, 0, none⟩))).setCell ⟨q 0, 1, none⟩ (.pointer (some ⟨w.heap.size, 0, none⟩))).setCell ⟨q 0, 4, none⟩ (.int .i64 ((n : Int) + 1)))).heap.size = w.heap.size := by simp
  have hne : ∀ i, i < n → q i ≠ q n := fun i hi e => by have := (h1 n (Nat.le_refl _)).2.2.1 i hi; omega
  have hne0 : ∀ i, 0 < i → i ≤ n → q i ≠ q 0 := fun i h0 hi e => by have := (h1 i hi).2.2.1 0 h0; omega
  refine ⟨fun i hi => ?_, ?_, ?_, by simp [h4], fun i hi => ?_⟩
  · rcases Nat.lt_or_ge n i with h' | h'
    · obtain rfl : i = n + 1 := by omega
      (try dsimp only)
      rw [if_pos rfl, if_neg (Nat.lt_irrefl _)]
      refine ⟨by simp, fun o => ?_, fun j hj => ?_, ?_⟩
      · rw [World.frozen?_alloc_at (hn := hsz.symm)]
      · (try dsimp only); rw [hq j (by omega)]; exact (h1 j (by omega)).1
      · rw [World.cell?_alloc_at (hn := hsz.symm), hq 0 (by omega)]; rfl
    · (try dsimp only)
      rw [hq i h']
      obtain ⟨a1, a2, a3, a4⟩ := h1 i h'
      refine ⟨by simp; omega, fun o => ?_, fun j hj => ?_, ?_⟩
      · rw [World.frozen?_alloc_past (hn := by rw [hsz]; exact a1)]
        simpa using a2 o
      · (try dsimp only); rw [hq j (by omega)]; exact a3 j hj
      · rw [hs _ a1, if_neg (by simp), if_neg (by simp)]
        rcases Nat.lt_or_ge i n with h'' | h''
        · rw [if_neg (by simp; exact hne i h''), a4, if_pos h'', if_pos (by omega), hq _ (by omega)]
        · obtain rfl : i = n := by omega
          rw [if_pos rfl, if_pos (by omega), if_pos rfl]
  · (try dsimp only); rw [hq 0 (by omega), if_pos rfl, hs _ (h1 0 (by omega)).1, if_neg (by simp), if_pos rfl]
  · (try dsimp only); rw [hq 0 (by omega), hs _ (h1 0 (by omega)).1, if_pos rfl]; simp
  · (try dsimp only); rw [hq 0 (by omega)]
    rcases Nat.lt_or_ge i n with h' | h'
    · (try dsimp only); rw [hq (i + 1) (by omega)]
      obtain ⟨a, f', b, c⟩ := h5 i h'
      refine ⟨?_, f', by rw [List.getElem?_append_left (by omega)]; exact b, ?_⟩
      · rw [hs _ (h1 (i + 1) (by omega)).1, if_neg (by simp), if_neg (by simp), if_neg (by simp)]; exact a
      · rw [hs _ (h1 (i + 1) (by omega)).1, if_neg (by simp), if_neg (by simp), if_neg (by simp)]; exact c
    · obtain rfl : i = n := by omega
      rw [if_pos rfl]
      refine ⟨?_, f, by rw [List.getElem?_append_right (by omega), h4]; simp, ?_⟩
      · rw [World.cell?_alloc_at (hn := hsz.symm)]; rfl
      · rw [World.cell?_alloc_at (hn := hsz.symm)]; rfl
end Go.Proofs.YtjcnnjknhemimaaGreatDoor
