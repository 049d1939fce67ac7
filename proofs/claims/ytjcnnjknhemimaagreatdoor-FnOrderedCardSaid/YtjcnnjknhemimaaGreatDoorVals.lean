/- The plain side of the values: how a value of the reference, a value of the thin package and an argument of the formula machine lie in cells, and what the conversions between them make of each. Nothing of the program here. -/
import Derived.Test.YtjcnnjknhemimaaGreatDoorWords
import Derived.Test.YtjcnnjknhemimaaGreatDoorFl
namespace Go.Proofs.YtjcnnjknhemimaaGreatDoor
open Go Go.RowKit

/-- Pieces of one length behind one another: where the cells of the k-th piece stand. -/
theorem flatMap_at {α : Type} (f : α → List Value) (s : Nat) (hs : ∀ a, (f a).length = s) :
    ∀ (xs : List α) (k : Nat) (x : α), xs[k]? = some x → ∀ j, j < s → (xs.flatMap f)[k * s + j]? = (f x)[j]?
  | [], k, x, h, _, _ => by simp at h
  | y :: r, 0, x, h, j, hj => by
    simp at h; subst h
    rw [List.flatMap_cons, Nat.zero_mul, Nat.zero_add, List.getElem?_append_left (by rw [hs]; exact hj)]
  | y :: r, k + 1, x, h, j, hj => by
    have h' : r[k]? = some x := by simpa using h
    rw [List.flatMap_cons, List.getElem?_append_right (by rw [hs, Nat.add_mul]; omega), hs]
    have e : (k + 1) * s + j - s = k * s + j := by rw [Nat.add_mul]; omega
    rw [e]
    exact flatMap_at f s hs r k x h' j hj
theorem flatMap_len {α : Type} (f : α → List Value) (s : Nat) (hs : ∀ a, (f a).length = s) : ∀ xs : List α, (xs.flatMap f).length = xs.length * s
  | [] => by simp
  | y :: r => by rw [List.flatMap_cons, List.length_append, hs, flatMap_len f s hs r, List.length_cons, Nat.add_mul]; omega
theorem flatMap_snoc {α : Type} (f : α → List Value) (xs : List α) (x : α) : (xs ++ [x]).flatMap f = xs.flatMap f ++ f x := by simp

/-- A slice that begins at the head of its block (or is empty) and reads as the cells xs; it lies below block B. -/
def Rd (w : World) (B size : Nat) (A : Option Addr) (n : Nat) (xs : List Value) : Prop :=
  xs.length = n * size ∧ (0 < n → ∃ g, A = some ⟨g, 0, none⟩ ∧ g < B ∧ ∀ j u, xs[j]? = some u → w.cell? ⟨g, j, none⟩ = some u)

section
variable {w w' : World} {B B' size n : Nat} {A : Option Addr} {xs : List Value}
theorem Rd.nil (w : World) (B size : Nat) (A : Option Addr) : Rd w B size A 0 [] := ⟨by simp, fun h => absurd h (by omega)⟩
theorem Rd.keep (h : Rd w B size A n xs) (hk : ∀ b o, b < B → w'.cell? ⟨b, o, none⟩ = w.cell? ⟨b, o, none⟩) : Rd w' B size A n xs :=
  ⟨h.1, fun hn => by
    obtain ⟨g, e, hg, hc⟩ := h.2 hn
    exact ⟨g, e, hg, fun j u hu => (hk _ _ hg).trans (hc j u hu)⟩⟩
theorem Rd.more (h : Rd w B size A n xs) (hB : B ≤ B') : Rd w B' size A n xs :=
  ⟨h.1, fun hn => by
    obtain ⟨g, e, hg, hc⟩ := h.2 hn
    exact ⟨g, e, by omega, hc⟩⟩
theorem Rd.below (h : Rd w B size A n xs) (hb : Below B w w') : Rd w' B size A n xs := h.keep fun b o hp => hb.cell (p := ⟨b, o, none⟩) hp
theorem Rd.drew (h : Rd w B size A n xs) : Rd w.drew B size A n xs := h
theorem Rd.alloc (h : Rd w B size A n xs) (hB : B ≤ w.heap.size) (o : Obj) : Rd (w.alloc o) B size A n xs :=
  h.keep fun b off hp => World.cell?_alloc_lt w o ⟨b, off, none⟩ (by show b < _; omega)
theorem Rd.setCell (h : Rd w B size A n xs) {p : Addr} (hB : B ≤ p.block) (u : Value) : Rd (w.setCell p u) B size A n xs :=
  h.keep fun b off hq => World.cell?_setCell_other w p ⟨b, off, none⟩ u (fun e => by subst e; simp at hB; omega)
theorem Rd.of_own {base : Nat} {e : TypeId} {c : Nat} (h : w.ownsRow base e size (.slice A n c) n xs) : Rd w w.heap.size size A n xs := by
  refine ⟨h.1, fun hn => ?_⟩
  rcases h.2 with ⟨hv, h0⟩ | ⟨g, cap, cur, hv, hb, hg, _, _, _, ht⟩
  · omega
  · injection hv with hA
    subst hA
    refine ⟨g, rfl, (Array.getElem?_eq_some_iff.1 hg).1, fun j u hu => ?_⟩
    rw [cell_of_row w g j cur e (0, 0) hg]
    rw [← ht, List.getElem?_take] at hu
    split at hu
    · simpa using hu
    · cases hu
end

/-! ### A value of the reference without rows -/
structure V where
  k : Int
  n : Int
  d : Int
  t : ByteArray
def V.cells (v : V) : List Value := [.int .i64 v.k, .int .i64 v.n, .int .i64 v.d, .string v.t, .slice none 0 0]
def cellsV (vs : List V) : List Value := vs.flatMap V.cells
theorem V.cells_length (v : V) : v.cells.length = 5 := rfl
theorem cellsV_length (vs : List V) : (cellsV vs).length = vs.length * 5 := flatMap_len _ 5 V.cells_length vs
theorem cellsV_snoc (vs : List V) (v : V) : cellsV (vs ++ [v]) = cellsV vs ++ v.cells := flatMap_snoc _ _ _

/-- What a round reads of the k-th value. -/
theorem rdV {w : World} {B n : Nat} {A : Option Addr} {vs : List V} (h : Rd w B 5 A n (cellsV vs)) (i : Nat) (hi : i < n) :
    ∃ (g : Nat) (k m d : Int) (t : ByteArray), A = some ⟨g, 0, none⟩ ∧ g < B ∧ vs[i]? = some ⟨k, m, d, t⟩ ∧ w.cell? ⟨g, i * 5, none⟩ = some (.int .i64 k) ∧ w.cell? ⟨g, i * 5 + 1, none⟩ = some (.int .i64 m) ∧
      w.cell? ⟨g, i * 5 + 2, none⟩ = some (.int .i64 d) ∧ w.cell? ⟨g, i * 5 + 3, none⟩ = some (.string t) ∧ w.cell? ⟨g, i * 5 + 4, none⟩ = some (.slice none 0 0) := by
  obtain ⟨g, e, hg, hc⟩ := h.2 (by omega)
  have hl : vs.length = n := by have := h.1; rw [cellsV_length] at this; omega
  obtain ⟨v, hv⟩ : ∃ v, vs[i]? = some v := ⟨_, List.getElem?_eq_getElem (by omega)⟩
  have F := flatMap_at V.cells 5 V.cells_length vs i v hv
  obtain ⟨k, m, d, t⟩ := v
  exact ⟨g, k, m, d, t, e, hg, hv, hc _ _ (F 0 (by omega)), hc _ _ (F 1 (by omega)), hc _ _ (F 2 (by omega)), hc _ _ (F 3 (by omega)), hc _ _ (F 4 (by omega))⟩

/-! ### A value of the thin package, or of the package's doors, without rows -/
structure I where
  k : Int
  x : Nat
  t : ByteArray
def I.cells (v : I) : List Value := [.int .i64 v.k, .float .f64 v.x, .string v.t, .slice none 0 0]
def cellsI (vs : List I) : List Value := vs.flatMap I.cells
theorem I.cells_length (v : I) : v.cells.length = 4 := rfl
theorem cellsI_length (vs : List I) : (cellsI vs).length = vs.length * 4 := flatMap_len _ 4 I.cells_length vs
theorem cellsI_snoc (vs : List I) (v : I) : cellsI (vs ++ [v]) = cellsI vs ++ v.cells := flatMap_snoc _ _ _
theorem rdI {w : World} {B n : Nat} {A : Option Addr} {vs : List I} (h : Rd w B 4 A n (cellsI vs)) (i : Nat) (hi : i < n) :
    ∃ (g : Nat) (k : Int) (x : Nat) (t : ByteArray), A = some ⟨g, 0, none⟩ ∧ g < B ∧ vs[i]? = some ⟨k, x, t⟩ ∧ w.cell? ⟨g, i * 4, none⟩ = some (.int .i64 k) ∧ w.cell? ⟨g, i * 4 + 1, none⟩ = some (.float .f64 x) ∧
      w.cell? ⟨g, i * 4 + 2, none⟩ = some (.string t) ∧ w.cell? ⟨g, i * 4 + 3, none⟩ = some (.slice none 0 0) := by
  obtain ⟨g, e, hg, hc⟩ := h.2 (by omega)
  have hl : vs.length = n := by have := h.1; rw [cellsI_length] at this; omega
  obtain ⟨v, hv⟩ : ∃ v, vs[i]? = some v := ⟨_, List.getElem?_eq_getElem (by omega)⟩
  have F := flatMap_at I.cells 4 I.cells_length vs i v hv
  obtain ⟨k, x, t⟩ := v
  exact ⟨g, k, x, t, e, hg, hv, hc _ _ (F 0 (by omega)), hc _ _ (F 1 (by omega)), hc _ _ (F 2 (by omega)), hc _ _ (F 3 (by omega))⟩

end Go.Proofs.YtjcnnjknhemimaaGreatDoor
