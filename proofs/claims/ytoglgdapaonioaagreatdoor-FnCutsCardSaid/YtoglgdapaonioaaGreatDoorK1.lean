/- The plain side of FnCuts: texts of plain bytes as runes, what string makes of a part of the runes, the lesser of two doubles that are integers. Nothing of the program here. -/
import Derived.Laws.IdiomStrings
import Derived.Laws.Cover4
import Derived.Laws.FloatArith
import Derived.WideShapes
import GoSem.Extern.MathDim
import Derived.Test.YtoglgdapaonioaaGreatDoorFl
namespace Go.Proofs.YtoglgdapaonioaaGreatDoor
open Go Ieee Fl
/-- Plain bytes alone. -/
def Low (s : ByteArray) : Prop := ∀ i, i < s.size → (s.get! i).toNat < 128
def runesOf (s : ByteArray) : List Int := s.data.toList.map fun b => (b.toNat : Int)
theorem runesOf_length (s : ByteArray) : (runesOf s).length = s.size := by simp [runesOf]
theorem runesOf_at (s : ByteArray) (i : Nat) (h : i < s.size) : (runesOf s)[i]? = some ((s.get! i).toNat : Int) := by
  have h' : i < s.data.size := h
  unfold runesOf
  rw [List.getElem?_map, Array.getElem?_toList, Array.getElem?_eq_getElem h']
  show some _ = some ((s.data[i]!).toNat : Int)
  rw [getElem!_pos s.data i h']
theorem decode_low (s : ByteArray) (i : Nat) (h : (s.get! i).toNat < 128) : Utf8.decode s i = ((s.get! i).toNat, 1) := by
  simp only [Utf8.decode, Nat.add_zero]
  rw [if_pos h]
theorem runesFrom_low (s : ByteArray) (h : Low s) : ∀ (bound i : Nat) (acc : Array Value), i ≤ s.size → s.size ≤ i + bound →
    Conv.runesFrom s bound i acc = acc ++ (((runesOf s).drop i).map (Value.int .i32)).toArray
  | 0, i, acc, h1, h2 => by
    have : (runesOf s).drop i = [] := List.drop_eq_nil_of_le (by rw [runesOf_length]; omega)
    simp [Conv.runesFrom, this]
  | bound + 1, i, acc, h1, h2 => by
    unfold Conv.runesFrom
    by_cases hi : i < s.size
    · rw [if_pos hi, decode_low s i (h i hi)]
      simp only
      rw [runesFrom_low s h bound (i + 1) _ (by omega) (by omega)]
      have hl : i < (runesOf s).length := by rw [runesOf_length]; exact hi
      have e := runesOf_at s i hi
      rw [List.getElem?_eq_getElem hl] at e
      rw [List.drop_eq_getElem_cons hl, Option.some.inj e]
      apply Array.ext'
      simp
    · have : (runesOf s).drop i = [] := List.drop_eq_nil_of_le (by rw [runesOf_length]; omega)
      rw [if_neg hi]
      simp [this]
/-- The cells of []rune(s). -/
def runeCells (s : ByteArray) (cap : Nat) : Array Value := ((runesOf s).map (Value.int .i32)).toArray ++ Array.replicate (cap - s.size) (.int .i32 0)
theorem runeCells_at (s : ByteArray) (cap j : Nat) (h : j < s.size) : (runeCells s cap)[j]? = some (.int .i32 ((runesOf s).getD j 0)) := by
  have hl : j < (runesOf s).length := by rw [runesOf_length]; exact h
  unfold runeCells
  rw [Array.getElem?_append_left (by simp; rw [runesOf_length]; exact h)]
  simp [List.getD, List.getElem?_eq_getElem hl]
theorem run_to_runes {P : Program} (W : World) (src dst e : TypeId) (s : ByteArray) (hs : P.underlying src = some .string) (hd : P.underlying dst = some (.slice e)) (he : P.underlying e = some (.int .i32)) (h : Low s) (hsz : s.size ≤ 1000) :
    ∃ cap, s.size ≤ cap ∧ (convert src dst (.string s)).run P W = .ok (.slice (some ⟨W.heap.size, 0, none⟩) s.size cap) (W.drew.alloc (.cells (runeCells s cap) e)) := by
  have e1 : Conv.runesFrom s s.size 0 #[] = ((runesOf s).map (Value.int .i32)).toArray := by
    rw [runesFrom_low s h s.size 0 #[] (by omega) (by omega)]
    simp
  have e2 : (Conv.runesFrom s s.size 0 #[]).size = s.size := by rw [e1]; simp; exact runesOf_length s
  have r := run_runes_of_string (P := P) W src dst e s hs hd he (by rw [e2]; omega)
  rw [e2, e1] at r
  exact ⟨_, grownCap_ge W s.size 0 e, r⟩
theorem encode_low (n : Nat) (h : n < 128) : Utf8.encode (n : Int) = ⟨#[UInt8.ofNat n]⟩ := by
  have hv : Utf8.valid (n : Int) = true := by simp [Utf8.valid]; omega
  unfold Utf8.encode
  simp only [hv, if_true, Int.toNat_natCast]
  rw [if_pos h]
theorem foldl_low : ∀ (l : List UInt8) (acc : ByteArray), (∀ b ∈ l, b.toNat < 128) → (l.map fun b => (b.toNat : Int)).foldl (fun r n => r ++ Utf8.encode n) acc = acc ++ ⟨l.toArray⟩
  | [], acc, _ => by
    apply ByteArray.ext
    simp
  | b :: l, acc, h => by
    rw [List.map_cons, List.foldl_cons, foldl_low l _ (fun c hc => h c (List.mem_cons_of_mem _ hc)), encode_low b.toNat (h b (by simp))]
    apply ByteArray.ext
    simp
theorem low_mem (s : ByteArray) (h : Low s) : ∀ b ∈ s.data.toList, b.toNat < 128 := by
  intro b hb
  obtain ⟨i, hi, rfl⟩ := List.getElem_of_mem hb
  have hi' : i < s.size := by simpa using hi
  have := h i hi'
  have e : s.get! i = s.data[i]'(by simpa using hi) := by
    show s.data[i]! = _
    rw [getElem!_pos]
  rw [e] at this
  simpa using this
/-- string of a part of the runes is that part of the text. -/
theorem part_low (s : ByteArray) (h : Low s) (a len : Nat) : runesBytes (((runesOf s).drop a).take len) = s.extract a (a + len) := by
  have e : ((runesOf s).drop a).take len = (((s.data.toList).drop a).take len).map fun b => (b.toNat : Int) := by
    unfold runesOf
    rw [← List.map_drop, ← List.map_take]
  unfold runesBytes
  rw [e, foldl_low _ _ (fun b hb => low_mem s h b (List.mem_of_mem_drop (List.mem_of_mem_take hb)))]
  apply ByteArray.ext
  apply Array.ext'
  simp [ByteArray.data_extract]
theorem run_part {P : Program} (W : World) (src dst e : TypeId) (g a len cap : Nat) (s : ByteArray) (hs : P.underlying src = some (.slice e)) (he : P.underlying e = some (.int .i32)) (hd : P.underlying dst = some .string) (h : Low s) (hl : a + len ≤ s.size)
    (hc : ∀ j, j < s.size → W.cell? ⟨g, j, none⟩ = some (.int .i32 ((runesOf s).getD j 0))) :
    (convert src dst (.slice (some ⟨g, a, none⟩) len cap)).run P W = .ok (.string (s.extract a (a + len))) W := by
  have hlen : ((runesOf s).drop a).length = s.size - a := by rw [List.length_drop, runesOf_length]
  have := run_convert_runes (P := P) W src dst e ⟨g, a, none⟩ len cap ((runesOf s).drop a) (by omega) hs he hd (fun j hj => by
    rw [Go.WideShapes.add_plain, hc (a + j) (by omega)]
    simp [List.getD, List.getElem?_drop])
  rw [this, part_low s h a len]
/-- What the machine's own lesser of two doubles comes to. -/
def minOf (a b : Datum) (x y : Nat) : Nat :=
  if a == .infinity true || b == .infinity true then FloatKind.f64.encode (.infinity true) else if a.isNaN || b.isNaN then 0x7FF8000000000001
  else if a.isZero && b.isZero then (if a.neg == true then x else y) else if a.order b == some .lt then x else y
theorem pick_run (x y : Nat) (P : Program) (w : World) : (Extern.MathDim.pick "math.archMin" true .lt #[.float .f64 x, .float .f64 y]).run P w = .ok (.float .f64 (minOf (FloatKind.f64.decode x) (FloatKind.f64.decode y) x y)) w := rfl
/-- The lesser of two doubles that are integers. -/
theorem pick_min {x y : Nat} {i n : Int} (hx : Is x i 0) (hy : Is y n 0) (h : i ≤ n) (P : Program) (w : World) : ∃ r, Is r i 0 ∧ (Extern.MathDim.pick "math.archMin" true .lt #[.float .f64 x, .float .f64 y]).run P w = .ok (.float .f64 r) w := by
  have ho := order_is hx hy
  obtain ⟨s, m, e, c, e1, h1, h2, h3⟩ := id hx
  obtain ⟨s', m', e', c', e1', h1', h2', h3'⟩ := id hy
  have d1 : FloatKind.f64.decode x = .number s m e := e1
  have d2 : FloatKind.f64.decode y = .number s' m' e' := e1'
  have ho' : (Datum.number s m e).order (.number s' m' e') = some (compare i n) := by
    have : (double.read x).order (double.read y) = some (compare i n) := ho
    rw [e1, e1'] at this
    exact this
  have hz : ∀ {s : Bool} {m : Nat} {e : Int} {c : Nat} {j : Int}, sg s m * 2 ^ (e + c).toNat * 2 ^ 0 = j * 2 ^ c → m = 0 → j = 0 := by
    intro s m e c j hh hm
    subst hm
    have h0 : sg s 0 = 0 := by unfold sg; cases s <;> rfl
    rw [h0, Int.zero_mul, Int.zero_mul] at hh
    rcases Int.mul_eq_zero.1 hh.symm with h | h
    · exact h
    · exact absurd h (Int.ne_of_gt (pow_pos' c))
  rcases Int.lt_or_eq_of_le h with hlt | heq
  · have hc : compare i n = .lt := Int.compare_eq_lt.2 hlt
    rw [hc] at ho'
    have hnz : ¬ (m = 0 ∧ m' = 0) := fun hh => by
      have := hz h3 hh.1
      have := hz h3' hh.2
      omega
    refine ⟨x, hx, ?_⟩
    rcases Nat.eq_zero_or_pos m with hm | hm
    · obtain ⟨k, hk⟩ : ∃ k, m' = k + 1 := ⟨m' - 1, by have := hnz; omega⟩
      subst hm hk
      rw [pick_run, d1, d2]
      simp [minOf, Datum.isNaN, Datum.isZero, ho']
    · obtain ⟨k, hk⟩ : ∃ k, m = k + 1 := ⟨m - 1, by omega⟩
      subst hk
      rw [pick_run, d1, d2]
      simp [minOf, Datum.isNaN, Datum.isZero, ho']
  · subst heq
    have hc : compare i i = .eq := by simp
    rw [hc] at ho'
    by_cases hh : m = 0 ∧ m' = 0
    · obtain ⟨rfl, rfl⟩ := hh
      refine ⟨if (Datum.number s 0 e).neg == true then x else y, by split <;> assumption, ?_⟩
      rw [pick_run, d1, d2]
      simp [minOf, Datum.isNaN, Datum.isZero]
    · refine ⟨y, hy, ?_⟩
      rcases Nat.eq_zero_or_pos m with hm | hm
      · obtain ⟨k, hk⟩ : ∃ k, m' = k + 1 := ⟨m' - 1, by omega⟩
        subst hm hk
        rw [pick_run, d1, d2]
        simp [minOf, Datum.isNaN, Datum.isZero, ho']
      · obtain ⟨k, hk⟩ : ∃ k, m = k + 1 := ⟨m - 1, by omega⟩
        subst hk
        rw [pick_run, d1, d2]
        simp [minOf, Datum.isNaN, Datum.isZero, ho']
end Go.Proofs.YtoglgdapaonioaaGreatDoor
