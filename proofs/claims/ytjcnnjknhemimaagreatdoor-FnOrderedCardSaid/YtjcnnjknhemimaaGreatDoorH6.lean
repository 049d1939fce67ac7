/- The plain law of FnOrdered: what the sorted list answers. -/
import Derived.Test.YtjcnnjknhemimaaGreatDoorH4
import Derived.Test.YtjcnnjknhemimaaGreatDoorH2
namespace Go.Proofs.YtjcnnjknhemimaaGreatDoor
open Go
/-- The sum of the k greatest. -/
def psum (ns : List Int) (k : Nat) : Int := ((List.range k).map fun i => nth ns (ns.length - 1 - i)).sum
theorem psum_zero (ns : List Int) : psum ns 0 = 0 := rfl
theorem psum_succ (ns : List Int) (k : Nat) : psum ns (k + 1) = psum ns k + nth ns (ns.length - 1 - k) := by
  unfold psum
  rw [List.range_succ, List.map_append, List.sum_append]
  simp
theorem psum_small (ns : List Int) (k : Nat) (hk : k ≤ 40) : (psum ns k).natAbs ≤ 1000000 := by
  have key : ∀ k, (psum ns k).natAbs ≤ 9999 * k := by
    intro k
    induction k with
    | zero => simp [psum_zero]
    | succ k ih =>
      rw [psum_succ]
      have := nth_small ns (ns.length - 1 - k)
      omega
  have := key k
  omega
/-- The sorted numbers as a list. -/
def sorted (ns : List Int) : List Int := (Sort.sort lt (smArr ns)).toList.map (·.1)
theorem sorted_len (ns : List Int) : (sorted ns).length = ns.length := by
  unfold sorted
  rw [List.length_map, Array.length_toList, (sort_law (smArr ns)).1, smArr_size]
theorem sorted_at (ns : List Int) (i : Nat) (h : i < ns.length) : (sorted ns)[i]? = some (nth ns i) := by
  have hs : i < (Sort.sort lt (smArr ns)).size := by rw [(sort_law (smArr ns)).1, smArr_size]; exact h
  unfold sorted nth
  rw [List.getElem?_map, Array.getElem?_toList, Array.getElem?_eq_getElem hs, getElem!_pos (Sort.sort lt (smArr ns)) i hs]
  rfl
theorem sorted_perm (ns : List Int) (h : ∀ x ∈ ns, x.natAbs ≤ 9999) : (sorted ns).Perm ns := by
  have h1 := (sort_law (smArr ns)).2.1.map (fun x : Sm => x.1)
  have e : (smArr ns).toList.map (fun x : Sm => x.1) = ns := by
    unfold smArr
    rw [List.toList_toArray, List.map_map]
    have : ∀ l : List Int, (∀ x ∈ l, x.natAbs ≤ 9999) → l.map ((fun x : Sm => x.1) ∘ sm) = l := by
      intro l
      induction l with
      | nil => intro _; rfl
      | cons x r ih =>
        intro hx
        rw [List.map_cons, ih (fun y hy => hx y (by simp [hy]))]
        congr 1
        exact sm_val (hx x (by simp))
    exact this ns h
  rw [e] at h1
  exact h1
theorem sum_perm {a b : List Int} (h : a.Perm b) : a.sum = b.sum := by
  induction h with
  | nil => rfl
  | cons x _ ih => rw [List.sum_cons, List.sum_cons, ih]
  | swap x y l => simp only [List.sum_cons]; omega
  | trans _ _ h1 h2 => exact h1.trans h2
theorem psum_all (ns : List Int) (h : ∀ x ∈ ns, x.natAbs ≤ 9999) : psum ns ns.length = ns.sum := by
  have e : (List.range ns.length).map (fun i => nth ns (ns.length - 1 - i)) = (sorted ns).reverse := by
    apply List.ext_getElem?
    intro i
    rcases Nat.lt_or_ge i ns.length with hi | hi
    · rw [List.getElem?_map, List.getElem?_range hi, List.getElem?_reverse (by rw [sorted_len]; exact hi), sorted_len, sorted_at ns _ (by omega)]
      rfl
    · rw [List.getElem?_eq_none (by simpa using hi), List.getElem?_eq_none (by rw [List.length_reverse, sorted_len]; exact hi)]
  unfold psum
  rw [e, sum_perm ((List.reverse_perm _).trans (sorted_perm ns h))]
theorem nth_le (ns : List Int) {i j : Nat} (hij : i ≤ j) (hj : j < ns.length) : nth ns i ≤ nth ns j := by
  rcases Nat.eq_or_lt_of_le hij with rfl | hlt
  · exact Int.le_refl _
  · have h := (sort_law (smArr ns)).2.2 i j hlt (by rw [smArr_size]; exact hj)
    have h2 : decide (((Sort.sort lt (smArr ns))[j]!).1 < ((Sort.sort lt (smArr ns))[i]!).1) = false := h
    have h3 := of_decide_eq_false h2
    unfold nth
    omega
theorem nth_mem (ns : List Int) (h : ∀ x ∈ ns, x.natAbs ≤ 9999) (i : Nat) (hi : i < ns.length) : nth ns i ∈ ns := (sorted_perm ns h).mem_iff.1 (List.mem_of_getElem? (sorted_at ns i hi))
theorem mem_nth (ns : List Int) (h : ∀ x ∈ ns, x.natAbs ≤ 9999) {M : Int} (hM : M ∈ ns) : ∃ i, i < ns.length ∧ nth ns i = M := by
  obtain ⟨i, hi⟩ := List.getElem?_of_mem ((sorted_perm ns h).mem_iff.2 hM)
  have hlt : i < ns.length := by have := (List.getElem?_eq_some_iff.1 hi).1; rwa [sorted_len] at this
  rw [sorted_at ns i hlt] at hi
  injection hi with hi
  exact ⟨i, hlt, hi⟩
theorem great_is (ns : List Int) (h : ∀ x ∈ ns, x.natAbs ≤ 9999) {M : Int} (hM : Great M ns) : M = nth ns (ns.length - 1) := by
  obtain ⟨i, hi, e⟩ := mem_nth ns h hM.1
  have h1 := hM.2 _ (nth_mem ns h (ns.length - 1) (by omega))
  have h2 := nth_le ns (show i ≤ ns.length - 1 by omega) (by omega)
  omega
theorem least_is (ns : List Int) (h : ∀ x ∈ ns, x.natAbs ≤ 9999) {M : Int} (hM : Least M ns) : M = nth ns 0 := by
  obtain ⟨i, hi, e⟩ := mem_nth ns h hM.1
  have h1 := hM.2 _ (nth_mem ns h 0 (by omega))
  have h2 := nth_le ns (Nat.zero_le i) hi
  omega
end Go.Proofs.YtjcnnjknhemimaaGreatDoor
