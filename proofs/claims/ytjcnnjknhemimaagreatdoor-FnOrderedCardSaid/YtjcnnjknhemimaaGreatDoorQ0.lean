/- The scans and the rounds of the partitions, in plain Lean: one equation a round, and what each way of it makes of the plain functions. -/
import Derived.Sort.LotC
namespace Go.Proofs.YtjcnnjknhemimaaGreatDoor
open Go.Sort
section
variable {α : Type} [Inhabited α]
theorem scanUp_step (p : α → Bool) (d : Array α) (j i : Nat) : scanUp p d j i = bif decide (i ≤ j) && p d[i]! then scanUp p d j (i + 1) else i := by
  conv => lhs; unfold scanUp
  cases (decide (i ≤ j) && p d[i]!) <;> rfl
theorem scanUp_go (p : α → Bool) (d : Array α) (j i : Nat) (h : i ≤ j) (hp : p d[i]! = true) : scanUp p d j i = scanUp p d j (i + 1) := by
  rw [scanUp_step p d j i, decide_eq_true h, hp]
  rfl
theorem scanUp_end (p : α → Bool) (d : Array α) (j i : Nat) (h : ¬ i ≤ j ∨ p d[i]! = false) : scanUp p d j i = i := by
  rw [scanUp_step p d j i]
  rcases h with h | h
  · rw [decide_eq_false h]; rfl
  · rw [h, Bool.and_false]; rfl
theorem scanDown_step (p : α → Bool) (d : Array α) (i k : Nat) : scanDown p d i (k + 1) = bif decide (i ≤ k + 1) && p d[k + 1]! then scanDown p d i k else k + 1 := by
  conv => lhs; unfold scanDown
  cases (decide (i ≤ k + 1) && p d[k + 1]!) <;> rfl
theorem scanDown_go (p : α → Bool) (d : Array α) (i j : Nat) (h : i ≤ j) (h0 : 0 < j) (hp : p d[j]! = true) : scanDown p d i j = scanDown p d i (j - 1) := by
  match j, h0 with
  | k + 1, _ =>
    rw [scanDown_step p d i k, decide_eq_true h, hp]
    rfl
theorem scanDown_end (p : α → Bool) (d : Array α) (i j : Nat) (h : ¬ i ≤ j ∨ p d[j]! = false) : scanDown p d i j = j := by
  match j with
  | 0 => rfl
  | k + 1 =>
    rw [scanDown_step p d i k]
    rcases h with h | h
    · rw [decide_eq_false h]; rfl
    · rw [h, Bool.and_false]; rfl
/-- Two scans by a test and by its contrary do not stop at one place. -/
theorem two_scans (p q : α → Bool) (hq : ∀ x, q x = !p x) (d : Array α) (i j : Nat) (h0 : 0 < i) {i2 j2 : Nat} (hi2 : i2 = scanUp p d j i) (hj2 : j2 = scanDown q d i2 j) (h : i2 ≤ j2) : i2 < j2 := by
  obtain ⟨u1, _, _, u4⟩ := scanUp_spec p d j _ i rfl
  obtain ⟨v1, _, _, v4⟩ := scanDown_spec q d i2 j
  rw [← hi2] at u1 u4
  rw [← hj2] at v1 v4
  rcases Nat.lt_or_ge i2 j2 with h' | h'
  · exact h'
  · have e : j2 = i2 := by omega
    have f1 := u4 (by omega)
    have f2 := v4 (by omega) (by omega)
    rw [e, hq, f1] at f2
    cases f2
variable (lt : α → α → Bool)
/-- A round of the loop of the partition by equality. -/
theorem partEq_round (a i j : Nat) (dk : Array α) {i2 j2 : Nat} (hi2 : i2 = scanUp (fun x => !lt dk[a]! x) dk j i) (hj2 : j2 = scanDown (fun x => lt dk[a]! x) dk i2 j) :
    partEqLoop lt a i j dk = if i2 > j2 then (i2, dk) else partEqLoop lt a (i2 + 1) (j2 - 1) (swp dk i2 j2) := by
  rw [partEqLoop_eq, ← hi2, ← hj2]
theorem partEq_break (a i j : Nat) (dk : Array α) {i2 j2 : Nat} (hi2 : i2 = scanUp (fun x => !lt dk[a]! x) dk j i) (hj2 : j2 = scanDown (fun x => lt dk[a]! x) dk i2 j) (h : j2 < i2) : partEqLoop lt a i j dk = (i2, dk) :=
  (partEq_round lt a i j dk hi2 hj2).trans (if_pos h)
theorem partEq_go (a i j : Nat) (dk : Array α) {i2 j2 : Nat} (hi2 : i2 = scanUp (fun x => !lt dk[a]! x) dk j i) (hj2 : j2 = scanDown (fun x => lt dk[a]! x) dk i2 j) (h : ¬ i2 > j2) : partEqLoop lt a i j dk = partEqLoop lt a (i2 + 1) (j2 - 1) (swp dk i2 j2) :=
  (partEq_round lt a i j dk hi2 hj2).trans (if_neg h)
theorem partEq_scans_lt (a i j : Nat) (dk : Array α) (h0 : 0 < i) {i2 j2 : Nat} (hi2 : i2 = scanUp (fun x => !lt dk[a]! x) dk j i) (hj2 : j2 = scanDown (fun x => lt dk[a]! x) dk i2 j) (h : i2 ≤ j2) : i2 < j2 :=
  two_scans _ _ (fun x => by simp) dk i j h0 hi2 hj2 h
/-- A round of the loop of the partition. -/
theorem part_round (a i j : Nat) (dk : Array α) {i2 j2 : Nat} (hi2 : i2 = scanUp (fun x => lt x dk[a]!) dk j i) (hj2 : j2 = scanDown (fun x => !lt x dk[a]!) dk i2 j) :
    partLoop lt a i j dk = if i2 > j2 then (j2, dk) else partLoop lt a (i2 + 1) (j2 - 1) (swp dk i2 j2) := by
  rw [partLoop_eq, ← hi2, ← hj2]
theorem part_break (a i j : Nat) (dk : Array α) {i2 j2 : Nat} (hi2 : i2 = scanUp (fun x => lt x dk[a]!) dk j i) (hj2 : j2 = scanDown (fun x => !lt x dk[a]!) dk i2 j) (h : j2 < i2) : partLoop lt a i j dk = (j2, dk) :=
  (part_round lt a i j dk hi2 hj2).trans (if_pos h)
theorem part_go (a i j : Nat) (dk : Array α) {i2 j2 : Nat} (hi2 : i2 = scanUp (fun x => lt x dk[a]!) dk j i) (hj2 : j2 = scanDown (fun x => !lt x dk[a]!) dk i2 j) (h : ¬ i2 > j2) : partLoop lt a i j dk = partLoop lt a (i2 + 1) (j2 - 1) (swp dk i2 j2) :=
  (part_round lt a i j dk hi2 hj2).trans (if_neg h)
theorem part_scans_lt (a i j : Nat) (dk : Array α) (h0 : 0 < i) {i2 j2 : Nat} (hi2 : i2 = scanUp (fun x => lt x dk[a]!) dk j i) (hj2 : j2 = scanDown (fun x => !lt x dk[a]!) dk i2 j) (h : i2 ≤ j2) : i2 < j2 :=
  two_scans _ _ (fun x => by simp) dk i j h0 hi2 hj2 h
/-- The partition, its first round written out. -/
theorem part_first (d : Array α) (a b pivot : Nat) {i j : Nat} {dk : Array α} {i2 j2 : Nat} (hi : i = a + 1) (hj : j = b - 1) (hdk : dk = swp d a pivot) (hi2 : i2 = scanUp (fun x => lt x dk[a]!) dk j i) (hj2 : j2 = scanDown (fun x => !lt x dk[a]!) dk i2 j) :
    partition lt d a b pivot = if i2 > j2 then (j2, true, swp dk j2 a) else
      ((partLoop lt a (i2 + 1) (j2 - 1) (swp dk i2 j2)).1, false, swp (partLoop lt a (i2 + 1) (j2 - 1) (swp dk i2 j2)).2 (partLoop lt a (i2 + 1) (j2 - 1) (swp dk i2 j2)).1 a) := by
  show (let d' := swp d a pivot
    let i' := scanUp (fun x => lt x d'[a]!) d' (b - 1) (a + 1)
    let j' := scanDown (fun x => !lt x d'[a]!) d' i' (b - 1)
    if i' > j' then (j', true, swp d' j' a) else
      let r := partLoop lt a (i' + 1) (j' - 1) (swp d' i' j')
      (r.1, false, swp r.2 r.1 a)) = _
  simp only [← hdk, ← hi, ← hj, ← hi2, ← hj2]
theorem part_first_break (d : Array α) (a b pivot : Nat) {i j : Nat} {dk : Array α} {i2 j2 : Nat} (hi : i = a + 1) (hj : j = b - 1) (hdk : dk = swp d a pivot) (hi2 : i2 = scanUp (fun x => lt x dk[a]!) dk j i) (hj2 : j2 = scanDown (fun x => !lt x dk[a]!) dk i2 j) (h : j2 < i2) :
    partition lt d a b pivot = (j2, true, swp dk j2 a) :=
  (part_first lt d a b pivot hi hj hdk hi2 hj2).trans (if_pos h)
theorem part_first_go (d : Array α) (a b pivot : Nat) {i j : Nat} {dk : Array α} {i2 j2 : Nat} (hi : i = a + 1) (hj : j = b - 1) (hdk : dk = swp d a pivot) (hi2 : i2 = scanUp (fun x => lt x dk[a]!) dk j i) (hj2 : j2 = scanDown (fun x => !lt x dk[a]!) dk i2 j) (h : ¬ i2 > j2) :
    partition lt d a b pivot = ((partLoop lt a (i2 + 1) (j2 - 1) (swp dk i2 j2)).1, false, swp (partLoop lt a (i2 + 1) (j2 - 1) (swp dk i2 j2)).2 (partLoop lt a (i2 + 1) (j2 - 1) (swp dk i2 j2)).1 a) :=
  (part_first lt d a b pivot hi hj hdk hi2 hj2).trans (if_neg h)
end
end Go.Proofs.YtjcnnjknhemimaaGreatDoor
