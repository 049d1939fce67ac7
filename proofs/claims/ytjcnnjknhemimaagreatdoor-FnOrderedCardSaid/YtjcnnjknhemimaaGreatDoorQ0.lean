/- The scans and rounds of the partitions, in plain Lean: what each way of a round does to the plain functions (lines of the kit's worked walks WalkC and WalkC4, turned: those texts load another program). -/
import Derived.Sort.LotC
namespace Go.Proofs.YtjcnnjknhemimaaGreatDoor
open Go.Sort
section
variable {α : Type} [Inhabited α]
theorem scanUp_go (p : α → Bool) (d : Array α) (j i : Nat) (h : i ≤ j) (hp : p d[i]! = true) : scanUp p d j i = scanUp p d j (i + 1) := by
  rw [scanUp, if_pos (by simp [h, hp])]
theorem scanUp_end (p : α → Bool) (d : Array α) (j i : Nat) (h : ¬ i ≤ j ∨ p d[i]! = false) : scanUp p d j i = i := by
  rw [scanUp, if_neg (by rcases h with h | h <;> simp [h])]
theorem scanDown_go (p : α → Bool) (d : Array α) (i j : Nat) (h : i ≤ j) (h0 : 0 < j) (hp : p d[j]! = true) : scanDown p d i j = scanDown p d i (j - 1) := by
  obtain ⟨k, rfl⟩ : ∃ k, j = k + 1 := ⟨j - 1, by omega⟩
  rw [scanDown, if_pos (by simp [h, hp])]
  rfl
theorem scanDown_end (p : α → Bool) (d : Array α) (i j : Nat) (h : ¬ i ≤ j ∨ p d[j]! = false) : scanDown p d i j = j := by
  cases j with
  | zero => rfl
  | succ k => rw [scanDown, if_neg (by rcases h with h | h <;> simp [h])]
theorem two_scans (p q : α → Bool) (hq : ∀ x, q x = !p x) (d : Array α) (i j : Nat) (h0 : 0 < i) {i2 j2 : Nat} (hi2 : i2 = scanUp p d j i) (hj2 : j2 = scanDown q d i2 j) (h : i2 ≤ j2) : i2 < j2 := by
  obtain ⟨u1, _, _, u4⟩ := scanUp_spec p d j _ i rfl
  obtain ⟨v1, _, _, v4⟩ := scanDown_spec q d i2 j
  rw [← hi2] at u1 u4
  rw [← hj2] at v1 v4
  rcases Nat.lt_or_ge i2 j2 with h' | h'
  · exact h'
  · have e : j2 = i2 := by omega
    have f1 := u4 (by omega)
    have f2 := v4 (by omega) (by omega)
    rw [e, hq, f1] at f2
    cases f2
variable (lt : α → α → Bool)
theorem partEq_break (a i j : Nat) (dk : Array α) {i2 j2 : Nat} (hi2 : i2 = scanUp (fun x => !lt dk[a]! x) dk j i) (hj2 : j2 = scanDown (fun x => lt dk[a]! x) dk i2 j) (h : j2 < i2) : partEqLoop lt a i j dk = (i2, dk) := by
  subst hi2; subst hj2
  rw [partEqLoop_eq, if_pos h]
theorem partEq_go (a i j : Nat) (dk : Array α) {i2 j2 : Nat} (hi2 : i2 = scanUp (fun x => !lt dk[a]! x) dk j i) (hj2 : j2 = scanDown (fun x => lt dk[a]! x) dk i2 j) (h : ¬ i2 > j2) : partEqLoop lt a i j dk = partEqLoop lt a (i2 + 1) (j2 - 1) (swp dk i2 j2) := by
  subst hi2; subst hj2
  rw [partEqLoop_eq, if_neg h]
theorem partEq_scans_lt (a i j : Nat) (dk : Array α) (h0 : 0 < i) {i2 j2 : Nat} (hi2 : i2 = scanUp (fun x => !lt dk[a]! x) dk j i) (hj2 : j2 = scanDown (fun x => lt dk[a]! x) dk i2 j) (h : i2 ≤ j2) : i2 < j2 :=
  two_scans _ _ (fun x => by simp) dk i j h0 hi2 hj2 h
theorem part_break (a i j : Nat) (dk : Array α) {i2 j2 : Nat} (hi2 : i2 = scanUp (fun x => lt x dk[a]!) dk j i) (hj2 : j2 = scanDown (fun x => !lt x dk[a]!) dk i2 j) (h : j2 < i2) : partLoop lt a i j dk = (j2, dk) := by
  subst hi2; subst hj2
  rw [partLoop_eq, if_pos h]
theorem part_go (a i j : Nat) (dk : Array α) {i2 j2 : Nat} (hi2 : i2 = scanUp (fun x => lt x dk[a]!) dk j i) (hj2 : j2 = scanDown (fun x => !lt x dk[a]!) dk i2 j) (h : ¬ i2 > j2) : partLoop lt a i j dk = partLoop lt a (i2 + 1) (j2 - 1) (swp dk i2 j2) := by
  subst hi2; subst hj2
  rw [partLoop_eq, if_neg h]
theorem part_scans_lt (a i j : Nat) (dk : Array α) (h0 : 0 < i) {i2 j2 : Nat} (hi2 : i2 = scanUp (fun x => lt x dk[a]!) dk j i) (hj2 : j2 = scanDown (fun x => !lt x dk[a]!) dk i2 j) (h : i2 ≤ j2) : i2 < j2 :=
  two_scans _ _ (fun x => by simp) dk i j h0 hi2 hj2 h
/-- The first round stands apart in the Go text: it ends at once .. -/
theorem part_first_break (d : Array α) (a b pivot : Nat) {i j : Nat} {dk : Array α} {i2 j2 : Nat} (hi : i = a + 1) (hj : j = b - 1) (hdk : dk = swp d a pivot) (hi2 : i2 = scanUp (fun x => lt x dk[a]!) dk j i) (hj2 : j2 = scanDown (fun x => !lt x dk[a]!) dk i2 j) (h : j2 < i2) :
    partition lt d a b pivot = (j2, true, swp dk j2 a) := by
  subst hi; subst hj; subst hdk; subst hi2; subst hj2
  unfold partition
  simp only []
  rw [if_pos h]
/-- .. or goes into the loop. -/
theorem part_first_go (d : Array α) (a b pivot : Nat) {i j : Nat} {dk : Array α} {i2 j2 : Nat} (hi : i = a + 1) (hj : j = b - 1) (hdk : dk = swp d a pivot) (hi2 : i2 = scanUp (fun x => lt x dk[a]!) dk j i) (hj2 : j2 = scanDown (fun x => !lt x dk[a]!) dk i2 j) (h : ¬ i2 > j2) :
    partition lt d a b pivot = ((partLoop lt a (i2 + 1) (j2 - 1) (swp dk i2 j2)).1, false, swp (partLoop lt a (i2 + 1) (j2 - 1) (swp dk i2 j2)).2 (partLoop lt a (i2 + 1) (j2 - 1) (swp dk i2 j2)).1 a) := by
  subst hi; subst hj; subst hdk; subst hi2; subst hj2
  unfold partition
  simp only []
  rw [if_neg h]
end
end Go.Proofs.YtjcnnjknhemimaaGreatDoor
