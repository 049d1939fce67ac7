/- The row that the sort turns: how it lies in a world, how a swap and a call of a part of the sort leave it. Nothing of the program here. -/
import Derived.Test.YtjcnnjknhemimaaGreatDoorQ1
namespace Go.Proofs.YtjcnnjknhemimaaGreatDoor
open Go Go.RowKit Go.Sort Ieee Fl
section
variable {w wr w' : World} {blk off : Nat} {d d' : Array Sm}
/-- The world as it was, but for the row (its content now: d), for draws, and for new blocks behind the old ones. -/
def Row (w wr : World) (blk off : Nat) (d : Array Sm) : Prop := ∃ (n : Nat) (os : Array Obj), wr = grow (putRow enc (Sort.ahead w n) blk off d) os
theorem Row.start (h : Holds enc w blk off d) : Row w w blk off d := ⟨0, #[], by rw [grow_empty, ahead_zero, putRow_self enc w blk off d h]⟩
theorem Row.drewN (h : Row w wr blk off d) (q : Nat) : Row w (wr.drewN q) blk off d := by
  obtain ⟨n, os, rfl⟩ := h
  exact ⟨n + q, os, by
    show Sort.ahead (grow (putRow enc (Sort.ahead w n) blk off d) os) q = _
    rw [ahead_grow, putRow_ahead enc w n, ahead_ahead, ← putRow_ahead]⟩
theorem Row.drew (h : Row w wr blk off d) : Row w wr.drew blk off d := h.drewN 1
theorem Row.alloc (h : Row w wr blk off d) (o : Obj) : Row w (wr.alloc o) blk off d := by
  obtain ⟨n, os, rfl⟩ := h
  exact ⟨n, os ++ #[o], by rw [alloc_eq_grow, grow_grow]⟩
theorem Row.cell (h0 : Holds enc w blk off d') (hb : blk < w.heap.size) (hs : d.size = d'.size) (h : Row w wr blk off d) (t : Nat) (ht : t < d.size) : wr.cell? ⟨blk, off + t, none⟩ = some (enc d[t]!) := by
  obtain ⟨n, os, rfl⟩ := h
  rw [cell?_grow _ _ _ (by simpa using hb)]
  exact cell?_putRow enc (Sort.ahead w n) blk off d' d (holds_ahead _ _ _ _ _ _ h0) hs t ht
theorem Row.frozen (h0 : Holds enc w blk off d') (hb : blk < w.heap.size) (hs : d.size = d'.size) (h : Row w wr blk off d) (t : Nat) (ht : t < d.size) : wr.frozen? ⟨blk, off + t, none⟩ = false := by
  obtain ⟨n, os, rfl⟩ := h
  rw [frozen?_grow _ _ _ (by simpa using hb), frozen?_putRow]
  exact ((holds_ahead _ _ n _ _ _ h0) t (by omega)).2
theorem Row.holds (h0 : Holds enc w blk off d') (hb : blk < w.heap.size) (hs : d.size = d'.size) (h : Row w wr blk off d) : Holds enc wr blk off d := fun t ht => ⟨h.cell h0 hb hs t ht, h.frozen h0 hb hs t ht⟩
theorem Row.size (h : Row w wr blk off d) : w.heap.size ≤ wr.heap.size := by
  obtain ⟨n, os, rfl⟩ := h
  simp
theorem Row.trans {d2 : Array Sm} (hb : blk < w.heap.size) (hs : d2.size = d.size) (h : Row w wr blk off d) (h' : Row wr w' blk off d2) : Row w w' blk off d2 := by
  obtain ⟨n, os, rfl⟩ := h
  obtain ⟨m, os', rfl⟩ := h'
  exact ⟨n + m, os ++ os', grow_step_grow enc w os os' n m blk off d d2 hb hs⟩
theorem setCell_grow (w : World) (os : Array Obj) (a : Addr) (v : Value) (hb : a.block < w.heap.size) (hsp : a.spot = none) : (grow w os).setCell a v = grow (w.setCell a v) os := by
  obtain ⟨b, o, s⟩ := a
  simp only at hsp hb
  subst hsp
  rw [setCell_eq, setCell_eq]
  exact mapBlock_grow w os b _ hb
theorem Row.swap (hb : blk < w.heap.size) (h : Row w wr blk off d) (i j : Nat) (hi : i < d.size) (hj : j < d.size) :
    Row w ((wr.setCell ⟨blk, off + i, none⟩ (enc d[j]!)).setCell ⟨blk, off + j, none⟩ (enc d[i]!)) blk off (swp d i j) := by
  obtain ⟨n, os, rfl⟩ := h
  refine ⟨n, os, ?_⟩
  rw [setCell_grow _ _ _ _ (by simpa using hb) rfl, setCell_grow _ _ _ _ (by simpa using hb) rfl, putRow_swp enc (Sort.ahead w n) blk off d i j hi hj]
/-- All but the row is as it was. -/
theorem Row.far (h : Row w wr blk off d) (b : Nat) (hlt : b < w.heap.size) (hne : b ≠ blk) : wr.heap[b]? = w.heap[b]? := by
  obtain ⟨n, os, rfl⟩ := h
  rw [heap_grow_old _ _ (by simpa using hlt)]
  unfold putRow mapBlock
  simp only
  rw [Array.getElem?_modify, if_neg (fun e => hne e.symm)]
  rfl
end
end Go.Proofs.YtjcnnjknhemimaaGreatDoor
