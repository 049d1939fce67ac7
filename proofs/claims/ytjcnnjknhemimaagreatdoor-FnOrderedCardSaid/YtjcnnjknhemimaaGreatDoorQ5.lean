/- The walks of slices.heapSortOrdered and slices.reverseRangeOrdered at doubles. -/
import Derived.Test.YtjcnnjknhemimaaGreatDoorQ4
import Derived.Sort.LotB
namespace Go.Proofs.YtjcnnjknhemimaaGreatDoor
open Go Go.RowKit Go.Sort Ieee Fl
attribute [local go_sem] run_store_float
theorem sift_size (hi first : Nat) : ∀ (n r : Nat) (d : Array Sm), hi - r ≤ n → (siftDown lt hi first r d).size = d.size := by
  intro n
  induction n with
  | zero =>
    intro r d h
    rw [sift_end hi first r d (by omega)]
  | succ n ih =>
    intro r d h
    by_cases hc : hi ≤ 2 * r + 1
    · rw [sift_end hi first r d hc]
    · cases hl : lt d[first + r]! d[first + kid hi first r d]! with
      | false => rw [sift_stop hi first r d (by omega) hl]
      | true =>
        rw [sift_go hi first r d (by omega) hl, ih, swp_size]
        unfold kid
        split <;> omega
theorem half_of {a b : Nat} (hab : a ≤ b) : ((b : Int) - (a : Int) - 1).tdiv 2 = (((b - a - 1) / 2 + 1 : Nat) : Int) - 1 := by
  rcases Nat.eq_or_lt_of_le hab with h | h
  · subst h
    simp only [Nat.sub_self, Int.sub_self]
    decide
  · rw [Int.tdiv_eq_ediv_of_nonneg (by omega)]
    omega
set_option maxHeartbeats 2000000 in
theorem heap_any (blk off cap a b : Nat) (d : Array Sm) (w : World) (hH : Holds enc w blk off d) (hblk : blk < w.heap.size) (hab : a ≤ b) (hb : b ≤ d.size) (hsz : d.size ≤ 1000) :
    Calls Tryz.prog 86 #[.slice (some ⟨blk, off, none⟩) d.size cap, .int .i64 a, .int .i64 b] w fun e w' => e = .returned (.tuple #[]) ∧ Row w w' blk off (heapSort lt d a b) := by
  have HH := hide hH
  have ecast : ((b - a : Nat) : Int) = (b : Int) - (a : Int) := by omega
  go_enter Tryz.func86, Tryz.ntmps86
  go_wp2_with fail
  go_loopw [9] (fun vi wr => ∃ (k : Nat) (dk : Array Sm), vi = .int .i64 ((k : Int) - 1) ∧ k ≤ (b - a - 1) / 2 + 1 ∧ dk.size = d.size ∧ Hid (Row w wr blk off dk) ∧ Hid (heapBuild lt (b - a) a k dk = heapBuild lt (b - a) a ((b - a - 1) / 2 + 1) d)) (fun vi _ => (intOf vi + 1).toNat)
  case atStart => exact ⟨_, d, by rw [half_of hab], Nat.le_refl _, rfl, hide (Row.start hH), hide rfl⟩
  case round =>
    obtain ⟨k, dk, rfl, hkk, hsk, HR, HO⟩ := hrel
    have hblk1 : blk < wr.heap.size := Nat.lt_of_lt_of_le hblk HR.out.size
    rcases Nat.eq_zero_or_pos k with hk0 | hkp
    rotate_left
    · obtain ⟨k, rfl⟩ : ∃ m, k = m + 1 := ⟨k - 1, by omega⟩
      have hcall := sift_any blk off cap k (b - a) a dk wr (HR.out.holds HH.out hblk hsk) hblk1 (by omega) (by omega) (by omega)
      rw [ecast, hsk] at hcall
      clear hH
      go_wp2_with (go_at_call 103; refine hcall.mono ?_; rintro e w1 ⟨rfl, hw1⟩)
      have hz := sift_size (b - a) a (b - a - k) k dk (Nat.le_refl _)
      go_roundw
      case rel => exact ⟨k, siftDown lt (b - a) a k dk, by simp, by omega, hz.trans hsk, hide (HR.out.trans hblk hz hw1), HO⟩
      case measure => (simp [intOf] <;> omega)
    · have HB : Hid (dk = heapBuild lt (b - a) a ((b - a - 1) / 2 + 1) d) := by
        rw [hk0] at HO
        exact HO
      have hk1 : k < 1 := by omega
      clear HO hkk hk0
      go_wp2_with fail
      go_loopw [10] (fun vi wr2 => ∃ (k : Nat) (dj : Array Sm), vi = .int .i64 ((k : Int) - 1) ∧ k ≤ b - a ∧ dj.size = d.size ∧ Hid (Row w wr2 blk off dj) ∧ Hid (heapPop lt a k dj = heapPop lt a (b - a) dk)) (fun vi _ => (intOf vi + 1).toNat)
      case atStart => exact ⟨b - a, dk, by rw [ecast], Nat.le_refl _, hsk, HR, hide rfl⟩
      case round =>
        obtain ⟨k, dj, rfl, hkk, hsj, HR2, HP⟩ := hrel
        clear hH
        cases k with
        | zero =>
          go_wp2_with fail
          go_end0
          have e : dj = heapSort lt d a b := by rw [heapSort, ← HB.out, ← HP.out]; rfl
          exact ⟨rfl, by rw [← e]; exact HR2.out⟩
        | succ k =>
          obtain ⟨G, hG⟩ : ∃ G : Nat → Sm, ∀ t, G t = dj[t]! := ⟨fun t => dj[t]!, fun _ => rfl⟩
          have hcell : ∀ t, t < d.size → wr.cell? ⟨blk, off + t, none⟩ = some (.float .f64 (word (G t).1)) := fun t ht => by
            rw [hG]; exact HR2.out.cell HH.out hblk hsj t (by omega)
          have hfroz : ∀ t, t < d.size → wr.frozen? ⟨blk, off + t, none⟩ = false := fun t ht => HR2.out.frozen HH.out hblk hsj t (by omega)
          have HG := hide hG
          clear hG
          have HS : Hid (∀ wx, Row w wx blk off (swp dj a (a + k)) → Calls Tryz.prog 103 #[.slice (some ⟨blk, off, none⟩) d.size cap, .int .i64 0, .int .i64 k, .int .i64 a] wx fun e w' => e = .returned (.tuple #[]) ∧ Row wx w' blk off (siftDown lt k a 0 (swp dj a (a + k)))) := hide fun wx hx => by
            have hz : (swp dj a (a + k)).size = d.size := by rw [swp_size]; exact hsj
            have := sift_any blk off cap 0 k a (swp dj a (a + k)) wx (hx.holds HH.out hblk hz) (Nat.lt_of_lt_of_le hblk hx.size) (by omega) (by omega) (by omega)
            rw [hz] at this
            exact this
          have hz2 := sift_size k a k 0 (swp dj a (a + k)) (Nat.le_refl _)
          rw [swp_size] at hz2
          rcases Nat.eq_zero_or_pos k with hk0 | hkp
          · subst hk0
            go_wp2_with fail
            go_region
            have HSW : Hid (Row w ((wr.setCell ⟨blk, off + a, none⟩ (.float .f64 (word (G a).1))).setCell ⟨blk, off + a, none⟩ (.float .f64 (word (G a).1))).drew blk off (swp dj a (a + 0))) := hide (by
              have := HR2.out.drew.swap hblk a (a + 0) (by omega) (by omega)
              rw [HG.out a]
              exact this)
            go_wp2_with (go_at_call 103; refine (HS.out _ HSW.out).mono ?_; rintro e w1 ⟨rfl, hw1⟩)
            go_roundw
            case rel => exact ⟨0, siftDown lt 0 a 0 (swp dj a (a + 0)), by simp, by omega, hz2.trans hsj, hide (HSW.out.trans hblk (hz2.trans (swp_size _ _ _).symm) hw1), HP⟩
            case measure => (simp [intOf] <;> omega)
          · go_wp2_with fail
            go_region
            have HSW : Hid (Row w ((wr.setCell ⟨blk, off + a, none⟩ (.float .f64 (word (G (a + k)).1))).setCell ⟨blk, off + (a + k), none⟩ (.float .f64 (word (G a).1))).drew blk off (swp dj a (a + k))) := hide (by
              have := HR2.out.drew.swap hblk a (a + k) (by omega) (by omega)
              rw [HG.out a, HG.out (a + k)]
              exact this)
            go_wp2_with (go_at_call 103; refine (HS.out _ HSW.out).mono ?_; rintro e w1 ⟨rfl, hw1⟩)
            go_roundw
            case rel => exact ⟨k, siftDown lt k a 0 (swp dj a (a + k)), by simp, by omega, hz2.trans hsj, hide (HSW.out.trans hblk (hz2.trans (swp_size _ _ _).symm) hw1), HP⟩
            case measure => (simp [intOf] <;> omega)
set_option maxHeartbeats 2000000 in
theorem reverse_any (blk off cap a b : Nat) (d : Array Sm) (w : World) (hH : Holds enc w blk off d) (hblk : blk < w.heap.size) (hab : a ≤ b) (hb : b ≤ d.size) (hsz : d.size ≤ 1000) :
    Calls Tryz.prog 89 #[.slice (some ⟨blk, off, none⟩) d.size cap, .int .i64 a, .int .i64 b] w fun e w' => e = .returned (.tuple #[]) ∧ Row w w' blk off (reverseRange d a b) := by
  have HH := hide hH
  go_enter Tryz.func89, Tryz.ntmps89
  go_wp2_with fail
  go_loopw [6, 7] (fun vi vj wr => ∃ (i jn : Nat) (jz : Int) (dk : Array Sm), vi = .int .i64 i ∧ vj = .int .i64 jz ∧ ((i : Int) < jz → jz = jn ∧ jn < d.size) ∧ (¬ (i : Int) < jz → ¬ i < jn) ∧ dk.size = d.size ∧ Hid (Row w wr blk off dk) ∧ Hid (reverseLoop i jn dk = reverseLoop a (b - 1) d)) (fun vi vj _ => (intOf vj - intOf vi).toNat)
  case atStart => exact ⟨a, b - 1, (b : Int) - 1, d, rfl, rfl, fun h => ⟨by omega, by omega⟩, fun h => by omega, rfl, hide (Row.start hH), hide rfl⟩
  case round =>
    obtain ⟨i, jn, jz, dk, rfl, rfl, h1, h2, hsk, HR, HO⟩ := hrel
    clear hH
    by_cases hlt : (i : Int) < jz
    · obtain ⟨rfl, hjn⟩ := h1 hlt
      have hij : i < jn := by omega
      clear h1 h2
      obtain ⟨G, hG⟩ : ∃ G : Nat → Sm, ∀ t, G t = dk[t]! := ⟨fun t => dk[t]!, fun _ => rfl⟩
      have hcell : ∀ t, t < d.size → wr.cell? ⟨blk, off + t, none⟩ = some (.float .f64 (word (G t).1)) := fun t ht => by
        rw [hG]; exact HR.out.cell HH.out hblk hsk t (by omega)
      have hfroz : ∀ t, t < d.size → wr.frozen? ⟨blk, off + t, none⟩ = false := fun t ht => HR.out.frozen HH.out hblk hsk t (by omega)
      have HG := hide hG
      clear hG
      go_wp2_with fail
      go_region
      all_goals go_wp2
      go_roundw
      case rel =>
        refine ⟨i + 1, jn - 1, (jn : Int) - 1, swp dk i jn, by congr 1, by congr 1, fun h => ⟨by omega, by omega⟩, fun h => by omega, by rw [swp_size]; exact hsk, hide ?_, hide ?_⟩
        · have := HR.out.drew.swap hblk i jn (by omega) (by omega)
          rw [HG.out i, HG.out jn]
          exact this
        · rw [← HO.out]
          conv => rhs; rw [reverseLoop, if_pos hij]
      case measure => (simp [intOf] <;> omega)
    · have h3 := h2 hlt
      clear h1 h2
      go_wp2_with fail
      go_end0
      refine ⟨rfl, ?_⟩
      have e : dk = reverseRange d a b := by
        have := HO.out
        rw [reverseLoop, if_neg h3] at this
        exact this
      rw [← e]
      exact HR.out
end Go.Proofs.YtjcnnjknhemimaaGreatDoor
