/- The plain law of TRIM: the fields of a text of plain bytes, joined by one blank, are what the reference's loop writes. Nothing of the program here. -/
import Derived.Lib.FieldsP
import Derived.Lib.Join
namespace Go.Proofs.YtemeamckdfnlfaaGreatDoor
open Go Go.Lib
/-- The blank, as a rune. -/
def blankR (r : Nat) : Bool := r == 32
/-- What the reference's loop has written behind i bytes. -/
def trimL (l : List UInt8) : Nat → List UInt8
  | 0 => []
  | i + 1 => if l.getD i 32 = 32 then trimL l i else (if 0 < i ∧ l.getD (i - 1) 32 = 32 ∧ trimL l i ≠ [] then trimL l i ++ [32] else trimL l i) ++ [l.getD i 32]
theorem trimL_length (l : List UInt8) : ∀ i, (trimL l i).length ≤ 2 * i
  | 0 => by simp [trimL]
  | i + 1 => by
    have := trimL_length l i
    unfold trimL
    split
    · omega
    · rw [List.length_append]
      split
      · rw [List.length_append]; simp; omega
      · simp; omega
theorem join_snoc (xs : List (List UInt8)) (y : List UInt8) (h : xs ≠ []) : join (xs ++ [y]) [32] = join xs [32] ++ [32] ++ y := by
  cases xs with
  | nil => exact absurd rfl h
  | cons x r =>
    rw [List.cons_append, join_cons, join_cons]
    simp [joinTail]
theorem join_grow (xs : List (List UInt8)) (y : List UInt8) (c : UInt8) : join (xs ++ [y ++ [c]]) [32] = join (xs ++ [y]) [32] ++ [c] := by
  by_cases h : xs = []
  · subst h
    simp [join_one]
  · rw [join_snoc xs _ h, join_snoc xs _ h]
    simp
theorem join_ne (xs : List (List UInt8)) (hx : xs ≠ []) (h : ∀ x ∈ xs, x ≠ []) : join xs [32] ≠ [] := by
  cases xs with
  | nil => exact absurd rfl hx
  | cons x r =>
    rw [join_cons]
    have := h x (by simp)
    simp [this]
/-- The bytes from a up to b. -/
def cutL (l : List UInt8) (x : Nat × Nat) : List UInt8 := (l.drop x.1).take (x.2 - x.1)
theorem cutL_grow (l : List UInt8) (a i : Nat) (c : UInt8) (h : a ≤ i) (hc : l[i]? = some c) : cutL l (a, i + 1) = cutL l (a, i) ++ [c] := by
  unfold cutL
  simp only
  rw [show i + 1 - a = (i - a) + 1 by omega, List.take_add_one, List.getElem?_drop, show a + (i - a) = i by omega, hc]
  rfl
theorem cutL_ne (l : List UInt8) (a i : Nat) (h : a < i) (hi : i ≤ l.length) : cutL l (a, i) ≠ [] := by
  unfold cutL
  intro e
  have := congrArg List.length e
  simp at this
  omega
def piecesL (l : List UInt8) (pos : Nat) (st : Option Nat) (acc : List (Nat × Nat)) : List (List UInt8) :=
  acc.map (cutL l) ++ (match st with | some a => [cutL l (a, pos)] | none => [])
/-- What holds behind pos bytes. -/
structure TrInv (l : List UInt8) (pos : Nat) (st : Option Nat) (acc : List (Nat × Nat)) : Prop where
  out : trimL l pos = join (piecesL l pos st acc) [32]
  spans : ∀ x ∈ acc, x.1 < x.2 ∧ x.2 ≤ l.length
  open_ : ∀ a, st = some a → a < pos ∧ l.getD (pos - 1) 32 ≠ 32
  none_ : st = none → (pos = 0 ∧ acc = []) ∨ (0 < pos ∧ l.getD (pos - 1) 32 = 32)
theorem TrInv.step_blank {l : List UInt8} {pos : Nat} {st : Option Nat} {acc : List (Nat × Nat)} (h : TrInv l pos st acc) (hp : pos < l.length) (hb : l.getD pos 32 = 32) :
    TrInv l (pos + 1) none (match st with | some a => acc ++ [(a, pos)] | none => acc) := by
  have e : trimL l (pos + 1) = trimL l pos := by rw [trimL, if_pos hb]
  cases st with
  | none =>
    exact ⟨by rw [e, h.out]; rfl, h.spans, fun a ha => (by cases ha), fun _ => .inr ⟨by omega, by rw [Nat.add_sub_cancel]; exact hb⟩⟩
  | some a =>
    refine ⟨by rw [e, h.out]; simp [piecesL], ?_, fun a ha => (by cases ha), fun _ => .inr ⟨by omega, by rw [Nat.add_sub_cancel]; exact hb⟩⟩
    intro x hx
    rcases List.mem_append.1 hx with hx | hx
    · exact h.spans x hx
    · simp at hx
      subst hx
      exact ⟨(h.open_ a rfl).1, by simp only; omega⟩
theorem TrInv.step_byte {l : List UInt8} {pos : Nat} {st : Option Nat} {acc : List (Nat × Nat)} (h : TrInv l pos st acc) (c : UInt8) (hc : l[pos]? = some c) (hb : c ≠ 32) :
    TrInv l (pos + 1) (some (st.getD pos)) acc := by
  have hp : pos < l.length := (List.getElem?_eq_some_iff.1 hc).1
  have hg : l.getD pos 32 = c := by simp [List.getD, hc]
  have hlast : l.getD (pos + 1 - 1) 32 ≠ 32 := by rw [Nat.add_sub_cancel, hg]; exact hb
  have hpc : ∀ x ∈ acc.map (cutL l), x ≠ [] := by
    intro x hx
    obtain ⟨y, hy, rfl⟩ := List.mem_map.1 hx
    exact cutL_ne l y.1 y.2 (h.spans y hy).1 (h.spans y hy).2
  cases st with
  | none =>
    refine ⟨?_, h.spans, fun a ha => ?_, fun ha => by cases ha⟩
    · have h0 : trimL l pos = join (acc.map (cutL l)) [32] := by rw [h.out]; simp [piecesL]
      have hcut : cutL l (pos, pos + 1) = [c] := by
        rw [cutL_grow l pos pos c (Nat.le_refl _) hc]
        simp [cutL]
      rw [trimL, if_neg (by rw [hg]; exact hb), hg]
      simp only [piecesL, Option.getD_none, hcut]
      rcases h.none_ rfl with ⟨rfl, rfl⟩ | ⟨h1, h2⟩
      · simp [trimL, join_one]
      · by_cases ha : acc = []
        · subst ha
          have h0' : trimL l pos = [] := by rw [h0]; rfl
          rw [if_neg (by rw [h0']; simp), h0']
          simp [join_one]
        · have hm : acc.map (cutL l) ≠ [] := by simpa using ha
          rw [if_pos ⟨h1, h2, by rw [h0]; exact join_ne _ hm hpc⟩, join_snoc _ _ hm, h0]
    · simp at ha
      subst ha
      exact ⟨by omega, hlast⟩
  | some a =>
    have ho := h.open_ a rfl
    refine ⟨?_, h.spans, fun b hb' => ?_, fun ha => by cases ha⟩
    · rw [trimL, if_neg (by rw [hg]; exact hb), hg, if_neg (fun e => ho.2 e.2.1), h.out]
      simp only [piecesL, Option.getD_some]
      rw [cutL_grow l a pos c (by omega) hc, join_grow]
    · simp at hb'
      subst hb'
      exact ⟨by omega, hlast⟩
theorem get_list (s : ByteArray) (i : Nat) (hi : i < s.size) : s.data.toList[i]? = some (s.get! i) := by
  have h' : i < s.data.size := hi
  rw [Array.getElem?_toList, Array.getElem?_eq_getElem h']
  show _ = some (s.data[i]!)
  rw [getElem!_pos s.data i h']
theorem spans_inv (s : ByteArray) (ha : ∀ i, i < s.size → (s.get! i).toNat < 128) : ∀ (f pos : Nat) (st : Option Nat) (acc : List (Nat × Nat)), pos ≤ s.size → s.size ≤ pos + f → TrInv s.data.toList pos st acc →
    ∃ st' acc', spansFromP blankR s f pos st acc = (acc', st') ∧ TrInv s.data.toList s.size st' acc'
  | 0, pos, st, acc, h1, h2, h => by
    obtain rfl : pos = s.size := by omega
    exact ⟨st, acc, rfl, h⟩
  | f + 1, pos, st, acc, h1, h2, h => by
    by_cases hp : pos < s.size
    · have hd : Utf8.decode s pos = ((s.get! pos).toNat, 1) := by
        have := ha pos hp
        simp only [Utf8.decode, Nat.add_zero]
        rw [if_pos this]
      have hl := get_list s pos hp
      have hpl : pos < s.data.toList.length := (List.getElem?_eq_some_iff.1 hl).1
      have hg : s.data.toList.getD pos 32 = s.get! pos := by simp [List.getD, hl]
      unfold spansFromP
      rw [if_pos hp, hd]
      simp only
      by_cases hb : s.get! pos = 32
      · have hbr : blankR (s.get! pos).toNat = true := by rw [hb]; rfl
        rw [if_pos hbr]
        have hs := h.step_blank hpl (by rw [hg]; exact hb)
        cases st with
        | none => exact spans_inv s ha f (pos + 1) none acc (by omega) (by omega) hs
        | some a => exact spans_inv s ha f (pos + 1) none (acc ++ [(a, pos)]) (by omega) (by omega) hs
      · have hbr : ¬ blankR (s.get! pos).toNat = true := by
          intro e
          apply hb
          have e' : (s.get! pos).toNat = 32 := by simpa [blankR] using e
          exact UInt8.toNat_inj.1 e'
        rw [if_neg hbr]
        have hs := h.step_byte (s.get! pos) hl hb
        cases st with
        | none => exact spans_inv s ha f (pos + 1) (some pos) acc (by omega) (by omega) hs
        | some a => exact spans_inv s ha f (pos + 1) (some a) acc (by omega) (by omega) hs
    · rw [spansFromP_end _ _ _ _ _ _ hp]
      obtain rfl : pos = s.size := by omega
      exact ⟨st, acc, rfl, h⟩
theorem extract_cut (s : ByteArray) (x : Nat × Nat) : (s.extract x.1 x.2).data.toList = cutL s.data.toList x := by
  rw [ByteArray.data_extract, Array.toList_extract]
  rfl
/-- The fields, joined by a blank. -/
theorem fields_join (s : ByteArray) (ha : ∀ i, i < s.size → (s.get! i).toNat < 128) : join ((goFieldsP blankR s).map (·.data.toList)) [32] = trimL s.data.toList s.size := by
  obtain ⟨st, acc, e, h⟩ := spans_inv s ha s.size 0 none [] (by omega) (by omega) ⟨rfl, fun x hx => by simp at hx, fun a ha => (by cases ha), fun _ => .inl ⟨rfl, rfl⟩⟩
  rw [h.out]
  unfold goFieldsP spansOfP
  rw [e, List.map_map]
  have hf : ((fun x : ByteArray => x.data.toList) ∘ fun x : Nat × Nat => s.extract x.1 x.2) = cutL s.data.toList := funext fun x => extract_cut s x
  rw [hf]
  cases st with
  | none => simp [closeSpans, piecesL]
  | some a => simp [closeSpans, piecesL]
theorem list_at (s : ByteArray) (k : Nat) (hk : k < s.size) : s.data.toList[k]? = some s[k] := by
  have h' : k < s.data.size := hk
  rw [Array.getElem?_toList, Array.getElem?_eq_getElem h']
  rfl
theorem getD_at (s : ByteArray) (k : Nat) (hk : k < s.size) : s.data.toList.getD k 32 = s[k] := by
  rw [List.getD, list_at s k hk]
  rfl
theorem extract_one (s : ByteArray) (k : Nat) (hk : k < s.size) : (s.extract k (k + 1)).data.toList = [s[k]] := by
  have := extract_cut s (k, k + 1)
  simp only at this
  rw [this, cutL_grow _ _ _ _ (Nat.le_refl _) (list_at s k hk)]
  simp [cutL]
theorem byte_ne {c : UInt8} (h : ¬ (c.toNat : Int) = 32) : c ≠ 32 := fun e => h (by rw [e]; rfl)
theorem byte_eq {c : UInt8} (h : (c.toNat : Int) = 32) : c = 32 := UInt8.toNat_inj.1 (by show c.toNat = 32; omega)
theorem trim_blank (s : ByteArray) (k : Nat) (hk : k < s.size) (h : (s[k].toNat : Int) = 32) : trimL s.data.toList (k + 1) = trimL s.data.toList k := by
  rw [trimL, getD_at s k hk, if_pos (byte_eq h)]
theorem trim_plain (s x : ByteArray) (k : Nat) (hk : k < s.size) (h : ¬ (s[k].toNat : Int) = 32) (hx : x.data.toList = trimL s.data.toList k) (hp : ¬ (0 < k ∧ s.data.toList.getD (k - 1) 32 = 32 ∧ trimL s.data.toList k ≠ [])) :
    (x ++ s.extract k (k + 1)).data.toList = trimL s.data.toList (k + 1) := by
  rw [trimL, getD_at s k hk, if_neg (byte_ne h), if_neg hp, ByteArray.data_append, Array.toList_append, extract_one s k hk, hx]
theorem trim_gap (s x : ByteArray) (k : Nat) (hk : k < s.size) (h : ¬ (s[k].toNat : Int) = 32) (hx : x.data.toList = trimL s.data.toList k) (hp : 0 < k ∧ s.data.toList.getD (k - 1) 32 = 32 ∧ trimL s.data.toList k ≠ []) :
    (x ++ ⟨#[32]⟩ ++ s.extract k (k + 1)).data.toList = trimL s.data.toList (k + 1) := by
  rw [trimL, getD_at s k hk, if_neg (byte_ne h), if_pos hp, ByteArray.data_append, Array.toList_append, extract_one s k hk, ByteArray.data_append, Array.toList_append, hx]
theorem bytes_ne {x : ByteArray} {L : List UInt8} (hx : x.data.toList = L) (h : x ≠ ⟨#[]⟩) : L ≠ [] := by
  rintro rfl
  apply h
  obtain ⟨d⟩ := x
  have : d = #[] := by simpa using hx
  rw [this]
theorem bytes_of (x : ByteArray) (L : List UInt8) (hx : x.data.toList = L) : x = ⟨L.toArray⟩ := by
  obtain ⟨d⟩ := x
  subst hx
  simp
/-- The text that TRIM answers. -/
def trimB (t : ByteArray) : ByteArray := ⟨(trimL t.data.toList t.size).toArray⟩
end Go.Proofs.YtemeamckdfnlfaaGreatDoor
