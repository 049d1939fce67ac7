/- Facts on a call's own blocks and rows; sizes of the types that are built. -/
import Derived.Test.YtjcnnjknhemimaaGreatDoorS1
namespace Go.Proofs.YtjcnnjknhemimaaGreatDoor
open Go Go.RowKit
/-- A block of the call's own, behind calls that leave it alone. -/
theorem own_cells {w w' : World} {C : Array Value} {t : TypeId} (hb : Below (w.heap.size + 1) (w.alloc (.cells C t)) w') :
    (∀ o, w'.cell? ⟨w.heap.size, o, none⟩ = C[o]?) ∧ (∀ o, w'.frozen? ⟨w.heap.size, o, none⟩ = false) ∧ w.heap.size < w'.heap.size := by
  refine ⟨fun o => (hb.cell (p := ⟨w.heap.size, o, none⟩) (by simp)).trans (World.cell?_alloc_mark w C t (0, 0) o), fun o => ?_, ?_⟩
  · rw [hb.frozen (p := ⟨w.heap.size, o, none⟩) (by simp), World.frozen?_alloc_mark]
    simp
  · have := hb.size
    simp at this
    omega
theorem info27 : (Tryz.prog.info? 32).map (fun i => (i.zero, i.size, i.bytes)) = some (some (.agg #[.int .i64 0, .int .i64 0, .int .i64 0, .string ⟨#[]⟩, .slice none 0 0]), 5, 64) := by kernel_rfl
theorem info47 : (Tryz.prog.info? 27).map (fun i => (i.zero, i.size, i.bytes)) = some (some (.agg #[.int .i64 0, .float .f64 0, .string ⟨#[]⟩, .slice none 0 0]), 4, 56) := by kernel_rfl
theorem info53 : (Tryz.prog.info? 42).map (fun i => (i.zero, i.size, i.bytes)) = some (some (.agg #[.int .i64 0, .float .f64 0, .string ⟨#[]⟩, .slice none 0 0]), 4, 56) := by kernel_rfl
theorem reads_new (w : World) (t : TypeId) (cs : Array Value) (size n : Nat) (h : cs.size = n * size) : Reads (w.alloc (.cells cs t)) (w.heap.size + 1) size (some ⟨w.heap.size, 0, none⟩) n cs.toList :=
  ⟨by simpa using h, fun _ => ⟨_, rfl, by simp, fun j u hu => by
    rw [Addr.add_lit, Nat.zero_add]
    exact (World.cell?_alloc_mark w cs t (0, 0) j).trans (by simpa using hu)⟩⟩
theorem own_ge {w : World} {base : Nat} {e : TypeId} {size n : Nat} {v : Value} {xs : List Value} (h : w.ownsRow base e size v n xs) : ∀ k, v.ownBlock = some k → base ≤ k := by
  intro k hk
  rcases h.2 with ⟨rfl, _⟩ | ⟨g, cap, cur, rfl, hb, _⟩
  · simp [Value.ownBlock] at hk
  · simp [Value.ownBlock] at hk
    omega
theorem own_slice {w : World} {base : Nat} {e : TypeId} {size n : Nat} {v : Value} {xs : List Value} (h : w.ownsRow base e size v n xs) : ∃ A c, v = .slice A n c := by
  rcases h.2 with ⟨rfl, rfl⟩ | ⟨g, cap, cur, rfl, _⟩
  · exact ⟨none, 0, rfl⟩
  · exact ⟨_, _, rfl⟩
end Go.Proofs.YtjcnnjknhemimaaGreatDoor
