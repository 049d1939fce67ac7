/- Words for lists whose elements themselves point to rows: a list as it reads, a list as it is being built; what keeps them. Nothing of the program here. -/
import Derived.Test.YtjcnnjknhemimaaGreatDoorVals
import Derived.Test.YtjcnnjknhemimaaGreatDoorQ1
namespace Go.Proofs.YtjcnnjknhemimaaGreatDoor
open Go Go.RowKit
/-- What the cells of an element are good for, in a world, where its rows lie in blocks of S. -/
abbrev Ok (X : Type) := World → (Nat → Prop) → X → List Value → Prop
/-- It stands in each world in which those blocks are as they were. -/
def Keeps {X : Type} (ok : Ok X) : Prop := ∀ (w w' : World) (S S' : Nat → Prop) (x : X) (cs : List Value), (∀ g, S g → S' g ∧ w'.heap[g]? = w.heap[g]?) → ok w S x cs → ok w' S' x cs
/-- A slice that reads as a list of elements; its block is one of S. -/
def RdL {X : Type} (w : World) (S : Nat → Prop) (size : Nat) (ok : Ok X) (A : Option Addr) (xs : List X) : Prop :=
  0 < xs.length → ∃ g, A = some ⟨g, 0, none⟩ ∧ S g ∧ ∀ (i : Nat) (x : X), xs[i]? = some x → ∃ cs, cs.length = size ∧ ok w S x cs ∧ ∀ j u, cs[j]? = some u → w.cell? ⟨g, i * size + j, none⟩ = some u
theorem cell_heap {w w' : World} {g : Nat} (h : w'.heap[g]? = w.heap[g]?) (o : Nat) : w'.cell? ⟨g, o, none⟩ = w.cell? ⟨g, o, none⟩ := by
  unfold World.cell?
  rw [show w'.heap[(⟨g, o, none⟩ : Addr).block]? = w.heap[(⟨g, o, none⟩ : Addr).block]? from h]
theorem RdL.keep {X : Type} {w w' : World} {S S' : Nat → Prop} {size : Nat} {ok : Ok X} {A : Option Addr} {xs : List X} (K : Keeps ok) (h : RdL w S size ok A xs) (hk : ∀ g, S g → S' g ∧ w'.heap[g]? = w.heap[g]?) : RdL w' S' size ok A xs := fun hn => by
  obtain ⟨g, e, hg, hc⟩ := h hn
  refine ⟨g, e, (hk g hg).1, fun i x hx => ?_⟩
  obtain ⟨cs, hl, ho, hcs⟩ := hc i x hx
  exact ⟨cs, hl, K w w' S S' x cs hk ho, fun j u hu => (cell_heap (hk g hg).2 _).trans (hcs j u hu)⟩
theorem RdL.at_ {X : Type} {w : World} {S : Nat → Prop} {size : Nat} {ok : Ok X} {A : Option Addr} {xs : List X} (h : RdL w S size ok A xs) {i : Nat} {x : X} (hx : xs[i]? = some x) :
    ∃ g cs, A = some ⟨g, 0, none⟩ ∧ S g ∧ cs.length = size ∧ ok w S x cs ∧ ∀ j u, cs[j]? = some u → w.cell? ⟨g, i * size + j, none⟩ = some u := by
  have hi := (List.getElem?_eq_some_iff.1 hx).1
  obtain ⟨g, e, hg, hc⟩ := h (by omega)
  obtain ⟨cs, hl, ho, hcs⟩ := hc i x hx
  exact ⟨g, cs, e, hg, hl, ho, hcs⟩
/-- A list that is being built: the cells of its elements, one behind the other. -/
def Built {X : Type} (w : World) (S : Nat → Prop) (size : Nat) (ok : Ok X) (css : List (List Value)) (xs : List X) : Prop :=
  css.length = xs.length ∧ ∀ (i : Nat) (x : X), xs[i]? = some x → ∃ cs, css[i]? = some cs ∧ cs.length = size ∧ ok w S x cs
theorem Built.nil {X : Type} (w : World) (S : Nat → Prop) (size : Nat) (ok : Ok X) : Built w S size ok [] [] := ⟨rfl, fun i x h => by simp at h⟩
theorem Built.keep {X : Type} {w w' : World} {S S' : Nat → Prop} {size : Nat} {ok : Ok X} {css : List (List Value)} {xs : List X} (K : Keeps ok) (h : Built w S size ok css xs) (hk : ∀ g, S g → S' g ∧ w'.heap[g]? = w.heap[g]?) : Built w' S' size ok css xs :=
  ⟨h.1, fun i x hx => by
    obtain ⟨cs, a, b, c⟩ := h.2 i x hx
    exact ⟨cs, a, b, K w w' S S' x cs hk c⟩⟩
theorem Built.snoc {X : Type} {w : World} {S : Nat → Prop} {size : Nat} {ok : Ok X} {css : List (List Value)} {xs : List X} (h : Built w S size ok css xs) {x : X} {cs : List Value} (hl : cs.length = size) (ho : ok w S x cs) : Built w S size ok (css ++ [cs]) (xs ++ [x]) := by
  refine ⟨by simp [h.1], fun i y hy => ?_⟩
  rcases Nat.lt_or_ge i xs.length with hi | hi
  · rw [List.getElem?_append_left hi] at hy
    rw [List.getElem?_append_left (by rw [h.1]; exact hi)]
    exact h.2 i y hy
  · rw [List.getElem?_append_right hi] at hy
    have e : i - xs.length = 0 := by
      have := (List.getElem?_eq_some_iff.1 hy).1
      simp at this
      omega
    rw [e] at hy
    simp at hy
    subst hy
    exact ⟨cs, by rw [List.getElem?_append_right (by rw [h.1]; exact hi), h.1, e]; rfl, hl, ho⟩
theorem Built.flat {X : Type} {w : World} {S : Nat → Prop} {size : Nat} {ok : Ok X} : ∀ {css : List (List Value)} {xs : List X}, Built w S size ok css xs → ∀ c ∈ css, c.length = size := by
  intro css xs h c hc
  obtain ⟨i, hi⟩ := List.getElem?_of_mem hc
  have hlt := (List.getElem?_eq_some_iff.1 hi).1
  obtain ⟨x, hx⟩ : ∃ x, xs[i]? = some x := ⟨_, List.getElem?_eq_getElem (by have := h.1; omega)⟩
  obtain ⟨cs, a, b, _⟩ := h.2 i x hx
  rw [hi] at a
  injection a with a
  rw [a]; exact b
theorem flatten_at (s : Nat) : ∀ (css : List (List Value)), (∀ c ∈ css, c.length = s) → ∀ (k : Nat) (c : List Value), css[k]? = some c → ∀ j, j < s → css.flatten[k * s + j]? = c[j]?
  | [], _, k, c, h, _, _ => by simp at h
  | y :: r, hs, 0, c, h, j, hj => by
    simp at h; subst h
    rw [List.flatten_cons, Nat.zero_mul, Nat.zero_add, List.getElem?_append_left (by rw [hs _ (by simp)]; exact hj)]
  | y :: r, hs, k + 1, c, h, j, hj => by
    have h' : r[k]? = some c := by simpa using h
    rw [List.flatten_cons, List.getElem?_append_right (by rw [hs _ (by simp), Nat.add_mul]; omega), hs _ (by simp)]
    have e : (k + 1) * s + j - s = k * s + j := by rw [Nat.add_mul]; omega
    rw [e]
    exact flatten_at s r (fun c hc => hs c (by simp [hc])) k c h' j hj
/-- What has been built, read. -/
theorem RdL.of_built {X : Type} {w : World} {S : Nat → Prop} {size : Nat} {ok : Ok X} {css : List (List Value)} {xs : List X} {base : Nat} {e : TypeId} {A : Option Addr} {n c : Nat} (hb : Built w S size ok css xs)
    (ho : w.ownsRow base e size (.slice A n c) n css.flatten) (hn : n = xs.length) (hS : ∀ g, A = some ⟨g, 0, none⟩ → base ≤ g → g < w.heap.size → S g) : RdL w S size ok A xs := fun hp => by
  rcases ho.2 with ⟨_, h0⟩ | ⟨g, cap, cur, hv, hge, hg, _, _, _, ht⟩
  · omega
  · injection hv with hA
    subst hA
    refine ⟨g, rfl, hS g rfl hge (Array.getElem?_eq_some_iff.1 hg).1, fun i x hx => ?_⟩
    obtain ⟨cs, a, b, c'⟩ := hb.2 i x hx
    refine ⟨cs, b, c', fun j u hu => ?_⟩
    rw [cell_of_row w g _ cur e (0, 0) hg]
    have hj : j < size := by rw [← b]; exact (List.getElem?_eq_some_iff.1 hu).1
    have h1 := flatten_at size css hb.flat i cs a j hj
    rw [hu] at h1
    rw [← ht, List.getElem?_take] at h1
    split at h1
    · simpa using h1
    · cases h1
/-- The blocks from lo on, below B, but for one. -/
def Apt (lo B : Nat) (own : Option Nat) : Nat → Prop := fun g => lo ≤ g ∧ g < B ∧ own ≠ some g
def In (lo B : Nat) : Nat → Prop := fun g => lo ≤ g ∧ g < B
/-- An append onto the list itself leaves its elements' rows alone. -/
theorem Built.grown {X : Type} {w w' : World} {lo size : Nat} {ok : Ok X} {css : List (List Value)} {xs : List X} {own own' : Option Nat} (K : Keeps ok) (h : Built w (Apt lo w.heap.size own) size ok css xs) (hg : w.grownBy w' own) (ho : own' = own ∨ own' = some w.heap.size) :
    Built w' (Apt lo w'.heap.size own') size ok css xs := h.keep K fun g hS => by
  have hz := hg.size
  refine ⟨⟨hS.1, by have := hS.2.1; omega, ?_⟩, hg.block g hS.2.1 (fun e => hS.2.2 e.symm)⟩
  rcases ho with rfl | rfl
  · exact hS.2.2
  · intro e
    injection e with e
    have := hS.2.1
    omega
theorem Built.below {X : Type} {w w' : World} {lo size : Nat} {ok : Ok X} {css : List (List Value)} {xs : List X} {own : Option Nat} (K : Keeps ok) (h : Built w (Apt lo w.heap.size own) size ok css xs) (hb : Below w.heap.size w w') : Built w' (Apt lo w'.heap.size own) size ok css xs :=
  h.keep K fun g hS => ⟨⟨hS.1, Nat.lt_of_lt_of_le hS.2.1 hb.size, hS.2.2⟩, hb.block g hS.2.1⟩
theorem Built.all_ {X : Type} {w : World} {lo B size : Nat} {ok : Ok X} {css : List (List Value)} {xs : List X} {own : Option Nat} (K : Keeps ok) (h : Built w (Apt lo B own) size ok css xs) : Built w (In lo B) size ok css xs := h.keep K fun _ hS => ⟨⟨hS.1, hS.2.1⟩, rfl⟩
theorem RdL.below {X : Type} {w w' : World} {lo B : Nat} {size : Nat} {ok : Ok X} {A : Option Addr} {xs : List X} (K : Keeps ok) (h : RdL w (In lo B) size ok A xs) (hb : Below B w w') : RdL w' (In lo B) size ok A xs :=
  h.keep K fun g hS => ⟨hS, hb.block g hS.2⟩
theorem RdL.setCell {X : Type} {w : World} {lo B : Nat} {size : Nat} {ok : Ok X} {A : Option Addr} {xs : List X} (K : Keeps ok) (h : RdL w (In lo B) size ok A xs) {p : Addr} (hp : p.block < lo) (u : Value) : RdL (w.setCell p u) (In lo B) size ok A xs :=
  h.keep K fun g hS => ⟨hS, Below.heap_setCell w p u g (by have := hS.1; omega)⟩
theorem RdL.more {X : Type} {w : World} {lo B lo' B' : Nat} {size : Nat} {ok : Ok X} {A : Option Addr} {xs : List X} (K : Keeps ok) (h : RdL w (In lo B) size ok A xs) (h1 : lo' ≤ lo) (h2 : B ≤ B') : RdL w (In lo' B') size ok A xs :=
  h.keep K fun _ hS => ⟨⟨Nat.le_trans h1 hS.1, Nat.lt_of_lt_of_le hS.2 h2⟩, rfl⟩
/-- An element that is a slice of one: a row of its own block. -/
def rowOk {X : Type} (cells : X → List Value) : Ok X := fun w S x cs => ∃ g c, cs = [.slice (some ⟨g, 0, none⟩) 1 c] ∧ S g ∧ ∀ j u, (cells x)[j]? = some u → w.cell? ⟨g, j, none⟩ = some u
theorem rowOk_keeps {X : Type} (cells : X → List Value) : Keeps (rowOk cells) := by
  rintro w w' S S' x cs hk ⟨g, c, rfl, hg, hc⟩
  exact ⟨g, c, rfl, (hk g hg).1, fun j u hu => (cell_heap (hk g hg).2 j).trans (hc j u hu)⟩
/-- A column: a list of rows of one. -/
def Grid (w : World) (S : Nat → Prop) (cells : Int → List Value) (A : Option Addr) (ns : List Int) : Prop := RdL w S 1 (rowOk cells) A ns
theorem Grid.at_ {w : World} {S : Nat → Prop} {cells : Int → List Value} {A : Option Addr} {ns : List Int} (h : Grid w S cells A ns) {i : Nat} {n : Int} (hx : ns[i]? = some n) :
    ∃ g b c, A = some ⟨g, 0, none⟩ ∧ S g ∧ S b ∧ w.cell? ⟨g, i, none⟩ = some (.slice (some ⟨b, 0, none⟩) 1 c) ∧ ∀ j u, (cells n)[j]? = some u → w.cell? ⟨b, j, none⟩ = some u := by
  obtain ⟨g, cs, e, hg, hl, ⟨b, c, rfl, hb, hc⟩, hcs⟩ := RdL.at_ h hx
  refine ⟨g, b, c, e, hg, hb, ?_, hc⟩
  have := hcs 0 _ (by simp; rfl)
  simpa using this
/-- An argument of the functions: a number, or a column of numbers. -/
inductive Ar where
  | num (n : Int)
  | col (ns : List Int)
def sNum (n : Int) : List Value := [.int .i64 1, .int .i64 n, .int .i64 1, .string ⟨#[]⟩, .slice none 0 0]
noncomputable def iNum (n : Int) : List Value := [.int .i64 1, .float .f64 (dbl n), .string ⟨#[]⟩, .slice none 0 0]
noncomputable def fNum (n : Int) : List Value := [.string ⟨#[]⟩, .float .f64 (word n), .string ⟨#[]⟩, .slice none 0 0, .slice none 0 0, .bool false, .string ⟨#[]⟩, .int .u8 1, .pointer none, .pointer none]
/-- As a value of the reference. -/
def okS : Ok Ar := fun w S x cs => match x with
  | .num n => cs = sNum n
  | .col ns => ∃ A c, cs = [.int .i64 5, .int .i64 0, .int .i64 0, .string ⟨#[]⟩, .slice A ns.length c] ∧ Grid w S sNum A ns
/-- As a value of the thin package, or of the doors. -/
def okI : Ok Ar := fun w S x cs => match x with
  | .num n => cs = iNum n
  | .col ns => ∃ A c, cs = [.int .i64 5, .float .f64 0, .string ⟨#[]⟩, .slice A ns.length c] ∧ Grid w S iNum A ns
/-- As an argument of the formula machine: its columns bear two lists of references, one empty, one of one. -/
def okF : Ok Ar := fun w S x cs => match x with
  | .num n => cs = fNum n
  | .col ns => ∃ A c L1 L2, cs = [.string ⟨#[]⟩, .float .f64 0, .string ⟨#[]⟩, .slice none 0 0, .slice A ns.length c, .bool false, .string ⟨#[]⟩, .int .u8 4, .pointer (some ⟨L1, 0, none⟩), .pointer (some ⟨L2, 0, none⟩)] ∧ Grid w S fNum A ns ∧
      S L1 ∧ S L2 ∧ w.cell? ⟨L1, 4, none⟩ = some (.int .i64 0) ∧ w.cell? ⟨L2, 4, none⟩ = some (.int .i64 1)
theorem okS_keeps : Keeps okS := by
  rintro w w' S S' x cs hk h
  cases x with
  | num n => exact h
  | col ns =>
    obtain ⟨A, c, e, hg⟩ := h
    exact ⟨A, c, e, hg.keep (rowOk_keeps _) hk⟩
theorem okI_keeps : Keeps okI := by
  rintro w w' S S' x cs hk h
  cases x with
  | num n => exact h
  | col ns =>
    obtain ⟨A, c, e, hg⟩ := h
    exact ⟨A, c, e, hg.keep (rowOk_keeps _) hk⟩
theorem okF_keeps : Keeps okF := by
  rintro w w' S S' x cs hk h
  cases x with
  | num n => exact h
  | col ns =>
    obtain ⟨A, c, L1, L2, e, hg, h1, h2, c1, c2⟩ := h
    exact ⟨A, c, L1, L2, e, hg.keep (rowOk_keeps _) hk, (hk L1 h1).1, (hk L2 h2).1, (cell_heap (hk L1 h1).2 4).trans c1, (cell_heap (hk L2 h2).2 4).trans c2⟩
/-- The arguments that are asked. -/
def OkAr : Ar → Prop
  | .num n => n.natAbs ≤ 9999
  | .col ns => 1 ≤ ns.length ∧ ns.length ≤ 40 ∧ ∀ n ∈ ns, n.natAbs ≤ 9999
end Go.Proofs.YtjcnnjknhemimaaGreatDoor
