/- The walks of order2, median and choosePivot at doubles (fewer than fifty of them: no ninther). -/
import Derived.Test.YtjcnnjknhemimaaGreatDoorQ2
import Derived.Sort.LotD4
namespace Go.Proofs.YtjcnnjknhemimaaGreatDoor
open Go Go.RowKit Go.Sort Ieee Fl
attribute [local go_sem] run_store_float
/-- The counter of swaps, as a row of one. -/
abbrev cnt (s : Nat) : Array Int := #[(s : Int)]
/-- The world as it was, but for the counter, and for draws. -/
def Cnt (w wr : World) (sb s : Nat) : Prop := ∃ n, wr = putRow (Value.int .i64) (Sort.ahead w n) sb 0 (cnt s)
section
variable {w wr w' : World} {sb s t blk off : Nat} {d : Array Sm}
theorem cnt_cell (h : Holds (Value.int .i64) w sb 0 (cnt s)) : w.cell? ⟨sb, 0, none⟩ = some (.int .i64 s) ∧ w.frozen? ⟨sb, 0, none⟩ = false := by simpa using h 0 (by simp)
theorem Cnt.start (h : Holds (Value.int .i64) w sb 0 (cnt s)) : Cnt w w sb s := ⟨0, by rw [ahead_zero, putRow_self _ w sb 0 _ h]⟩
theorem Cnt.holds (h0 : Holds (Value.int .i64) w sb 0 (cnt t)) (h : Cnt w wr sb s) : Holds (Value.int .i64) wr sb 0 (cnt s) := by
  obtain ⟨n, rfl⟩ := h
  exact holds_putRow _ _ _ _ (cnt t) (cnt s) (holds_ahead _ _ _ _ _ _ h0) rfl
theorem Cnt.trans (h : Cnt w wr sb s) (h' : Cnt wr w' sb t) : Cnt w w' sb t := by
  obtain ⟨n, rfl⟩ := h
  obtain ⟨m, rfl⟩ := h'
  exact ⟨n + m, putRow_ahead_putRow _ _ _ _ _ _ _ _ rfl⟩
theorem Cnt.drewN (h : Cnt w wr sb s) (q : Nat) : Cnt w (wr.drewN q) sb s := by
  obtain ⟨n, rfl⟩ := h
  exact ⟨n + q, by
    show Sort.ahead (putRow (Value.int .i64) (Sort.ahead w n) sb 0 (cnt s)) q = _
    rw [putRow_ahead (Value.int .i64) w n, ahead_ahead, ← putRow_ahead]⟩
theorem Cnt.set (h : Cnt w wr sb s) (t : Nat) : Cnt w (wr.setCell ⟨sb, 0, none⟩ (.int .i64 t)) sb t := by
  obtain ⟨n, rfl⟩ := h
  refine ⟨n, ?_⟩
  have := putRow_set (Value.int .i64) (Sort.ahead w n) sb 0 (cnt s) 0 (t : Int) (by simp)
  simpa using this
theorem Cnt.row (h : Cnt w wr sb s) (hne : sb ≠ blk) (hH : Holds enc w blk off d) : Holds enc wr blk off d := by
  obtain ⟨n, rfl⟩ := h
  exact fun j hj => ⟨by rw [cell?_putRow_other _ _ _ _ _ _ (Or.inl (Ne.symm hne))]; exact (hH j hj).1, by rw [frozen?_putRow]; exact (hH j hj).2⟩
end
set_option maxHeartbeats 2000000 in
theorem order2_any (blk off cap a b sb s : Nat) (d : Array Sm) (w : World) (hH : Holds enc w blk off d) (ha : a < d.size) (hb : b < d.size) (_hsz : d.size ≤ 1000)
    (hS : Holds (Value.int .i64) w sb 0 (cnt s)) (hs : s < 1000) :
    Calls Tryz.prog 137 #[.slice (some ⟨blk, off, none⟩) d.size cap, .int .i64 a, .int .i64 b, .pointer (some ⟨sb, 0, none⟩)] w fun e w' =>
      e = .returned (.tuple #[.int .i64 (order2 lt d a b s).1, .int .i64 (order2 lt d a b s).2.1]) ∧ Cnt w w' sb (order2 lt d a b s).2.2 := by
  obtain ⟨cs, fs⟩ := cnt_cell hS
  have HC : Hid (∀ q, Cnt w (w.drewN q) sb s) := hide fun q => (Cnt.start hS).drewN q
  obtain ⟨x, hx⟩ : ∃ x : Sm, x = d[b]! := ⟨_, rfl⟩
  obtain ⟨y, hy⟩ : ∃ y : Sm, y = d[a]! := ⟨_, rfl⟩
  have cb : w.cell? ⟨blk, off + b, none⟩ = some (.float .f64 (word x.1)) := by rw [hx]; exact (hH b hb).1
  have ca : w.cell? ⟨blk, off + a, none⟩ = some (.float .f64 (word y.1)) := by rw [hy]; exact (hH a ha).1
  have e1 : lt x y = true → order2 lt d a b s = (b, a, s + 1) := fun h => by unfold order2; rw [← hx, ← hy, if_pos h]
  have e2 : lt x y = false → order2 lt d a b s = (a, b, s) := fun h => by unfold order2; rw [← hx, ← hy, if_neg (by rw [h]; decide)]
  generalize order2 lt d a b s = r at *
  have E1 := hide e1
  have E2 := hide e2
  clear e1 e2 hx hy hH hS
  go_enter Tryz.func137, Tryz.ntmps137
  go_wp2_with fail
  go_quiet (first | (go_at_call 91; refine Calls.quiet_of_same (less_any _ _ _)))
  go_wp2
  · have hl : lt x y = true := by assumption
    rw [E1.out hl]
    go_ret2
    exact ⟨rfl, by have := (HC.out nq).set (s + 1); exact this⟩
  · have hl : lt x y = false := by assumption
    rw [E2.out hl]
    go_ret2
    exact ⟨rfl, HC.out nq⟩
theorem order2_in (d : Array Sm) {a b n : Nat} (s : Nat) (ha : a < n) (hb : b < n) : (order2 lt d a b s).1 < n ∧ (order2 lt d a b s).2.1 < n ∧ (order2 lt d a b s).2.2 ≤ s + 1 := by
  unfold order2
  split
  · exact ⟨hb, ha, Nat.le_refl _⟩
  · exact ⟨ha, hb, Nat.le_succ _⟩
set_option maxHeartbeats 2000000 in
set_option maxRecDepth 100000 in
theorem median_any (blk off cap a b c sb s : Nat) (d : Array Sm) (w : World) (hH : Holds enc w blk off d) (ha : a < d.size) (hb : b < d.size) (hc : c < d.size) (hsz : d.size ≤ 1000) (hne : sb ≠ blk)
    (hS : Holds (Value.int .i64) w sb 0 (cnt s)) (hs : s < 900) :
    Calls Tryz.prog 107 #[.slice (some ⟨blk, off, none⟩) d.size cap, .int .i64 a, .int .i64 b, .int .i64 c, .pointer (some ⟨sb, 0, none⟩)] w fun e w' =>
      e = .returned (.int .i64 (median lt d a b c s).1) ∧ Cnt w w' sb (median lt d a b c s).2 := by
  obtain ⟨a1, b1, s1, h1⟩ : ∃ a1 b1 s1, order2 lt d a b s = (a1, b1, s1) := ⟨_, _, _, rfl⟩
  obtain ⟨b2, c2, s2, h2⟩ : ∃ b2 c2 s2, order2 lt d b1 c s1 = (b2, c2, s2) := ⟨_, _, _, rfl⟩
  obtain ⟨a3, b3, s3, h3⟩ : ∃ a3 b3 s3, order2 lt d a1 b2 s2 = (a3, b3, s3) := ⟨_, _, _, rfl⟩
  have l1 := order2_in d s ha hb
  rw [h1] at l1
  have l2 := order2_in d s1 l1.2.1 hc
  rw [h2] at l2
  have l3 := order2_in d s2 l1.1 l2.1
  rw [h3] at l3
  simp only at l1 l2 l3
  have em : median lt d a b c s = (b3, s3) := by unfold median; simp only [h1, h2, h3]
  have k1 := order2_any blk off cap a b sb s d w hH ha hb hsz hS (by omega)
  rw [h1] at k1
  have K2 : Hid (∀ wr, Cnt w wr sb s1 → Calls Tryz.prog 137 #[.slice (some ⟨blk, off, none⟩) d.size cap, .int .i64 b1, .int .i64 c, .pointer (some ⟨sb, 0, none⟩)] wr fun e w' => e = .returned (.tuple #[.int .i64 b2, .int .i64 c2]) ∧ Cnt wr w' sb s2) := hide fun wr h => by
    have := order2_any blk off cap b1 c sb s1 d wr (h.row hne hH) l1.2.1 hc hsz (h.holds hS) (by omega)
    rw [h2] at this
    exact this
  have K3 : Hid (∀ wr, Cnt w wr sb s2 → Calls Tryz.prog 137 #[.slice (some ⟨blk, off, none⟩) d.size cap, .int .i64 a1, .int .i64 b2, .pointer (some ⟨sb, 0, none⟩)] wr fun e w' => e = .returned (.tuple #[.int .i64 a3, .int .i64 b3]) ∧ Cnt wr w' sb s3) := hide fun wr h => by
    have := order2_any blk off cap a1 b2 sb s2 d wr (h.row hne hH) l1.1 l2.1 hsz (h.holds hS) (by omega)
    rw [h3] at this
    exact this
  rw [em]
  clear em h1 h2 h3 hH hS
  go_enter Tryz.func107, Tryz.ntmps107
  go_wp2_with (go_at_call_of 137 (Value.int .i64 (b : Int)); refine k1.mono ?_; rintro e w1 ⟨rfl, hw1⟩)
  go_wp2_with (go_at_call_of 137 (Value.int .i64 (c : Int)); refine (K2.out _ hw1).mono ?_; rintro e w2 ⟨rfl, hw2⟩)
  go_wp2_with (go_at_call_of 137 (Value.int .i64 (a1 : Int)); refine (K3.out _ (hw1.trans hw2)).mono ?_; rintro e w3 ⟨rfl, hw3⟩)
  go_ret
  exact ⟨rfl, (hw1.trans hw2).trans hw3⟩
theorem cnt_grow (w wr : World) (o : Obj) (s : Nat) (h : Cnt (w.alloc o) wr w.heap.size s) : ∃ n os, wr = grow (Sort.ahead w n) os := by
  obtain ⟨n, rfl⟩ := h
  rw [alloc_eq_grow, ahead_grow]
  obtain ⟨os, _, h⟩ := putRow_grow_new (Value.int .i64) (Sort.ahead w n) #[o] w.heap.size 0 (cnt s) (Nat.le_refl _)
  exact ⟨n, os, h⟩
theorem cnt_alloc (w : World) (T : TypeId) : Holds (Value.int .i64) (w.alloc (.cells #[.int .i64 0] T)) w.heap.size 0 (cnt 0) := fun j hj => by
  obtain rfl : j = 0 := by simpa using hj
  simp
/-- A world that keeps the row, new blocks behind. -/
theorem Row.same {w wr w' : World} {blk off : Nat} {d d0 : Array Sm} (h0 : Holds enc w blk off d0) (hb : blk < w.heap.size) (hs : d.size = d0.size) (h : Row w wr blk off d) (h1 : ∃ n os, w' = grow (Sort.ahead wr n) os) : Row w w' blk off d := by
  have hH := h.holds h0 hb hs.symm.symm
  obtain ⟨n, os, rfl⟩ := h1
  refine h.trans hb rfl ⟨n, os, ?_⟩
  rw [putRow_self enc (Sort.ahead wr n) blk off d (holds_ahead enc wr n blk off d hH)]
set_option maxHeartbeats 2000000 in
/-- choosePivot where it is called: more than twelve, fewer than fifty: the median of three; the hint is never 'decreasing'. -/
theorem pivot_any (blk off cap a b : Nat) (d : Array Sm) (w : World) (hH : Holds enc w blk off d) (hblk : blk < w.heap.size) (hab : a + 8 ≤ b) (hb : b ≤ d.size) (hsz : d.size < 50) :
    Calls Tryz.prog 88 #[.slice (some ⟨blk, off, none⟩) d.size cap, .int .i64 a, .int .i64 b] w fun e w' =>
      e = .returned (.tuple #[.int .i64 (choosePivot lt d a b).1, .int .i64 (hintCode (choosePivot lt d a b).2)]) ∧ Row w w' blk off d := by
  rw [choosePivot_eq]
  have eraw : rawPivot lt d a b = median lt d (a + (b - a) / 4 * 1) (a + (b - a) / 4 * 2) (a + (b - a) / 4 * 3) 0 := by
    unfold rawPivot
    rw [if_pos (by omega), if_neg (by omega)]
  obtain ⟨I, hI⟩ : ∃ I : Nat, I = a + (b - a) / 4 * 1 := ⟨_, rfl⟩
  obtain ⟨J, hJ⟩ : ∃ J : Nat, J = a + (b - a) / 4 * 2 := ⟨_, rfl⟩
  obtain ⟨K, hK⟩ : ∃ K : Nat, K = a + (b - a) / 4 * 3 := ⟨_, rfl⟩
  rw [← hI, ← hJ, ← hK] at eraw
  have eI : ((a : Int) + ((b : Int) - (a : Int)) / 4) = (I : Int) := by omega
  have eJ : ((a : Int) + ((b : Int) - (a : Int)) / 4 * 2) = (J : Int) := by omega
  have eK : ((a : Int) + ((b : Int) - (a : Int)) / 4 * 3) = (K : Int) := by omega
  have h8 : (b : Int) - a ≥ 8 := by omega
  have h50 : ¬ (b : Int) - a ≥ 50 := by omega
  have lI : I < d.size := by omega
  have lJ : J < d.size := by omega
  have lK : K < d.size := by omega
  obtain ⟨p, s, hm⟩ : ∃ p s, median lt d I J K 0 = (p, s) := ⟨_, _, rfl⟩
  have ls := median_count lt d I J K 0
  rw [hm] at ls
  simp only at ls
  rw [eraw, hm]
  have HC : Hid (Calls Tryz.prog 107 #[.slice (some ⟨blk, off, none⟩) d.size cap, .int .i64 I, .int .i64 J, .int .i64 K, .pointer (some ⟨w.heap.size, 0, none⟩)] (w.alloc (.cells #[.int .i64 0] 3)) fun e w' =>
      e = .returned (.int .i64 p) ∧ w'.cell? ⟨w.heap.size, 0, none⟩ = some (.int .i64 s) ∧ Row w w' blk off d) := hide (by
    have hS := cnt_alloc w 3
    have hA : Holds enc (w.alloc (.cells #[.int .i64 0] 3)) blk off d := by rw [alloc_eq_grow]; exact holds_grow _ _ _ _ _ _ hblk hH
    have := median_any blk off cap I J K w.heap.size 0 d _ hA lI lJ lK (by omega) (by omega) hS (by omega)
    rw [hm] at this
    refine this.mono ?_
    rintro e w1 ⟨he, hw⟩
    exact ⟨he, (cnt_cell (hw.holds hS)).1, (Row.start hH).same hH hblk rfl (cnt_grow _ _ _ _ hw)⟩)
  have hh0 : s = 0 → hintCode (hintOf s) = 1 := fun h => by rw [h]; rfl
  have hhx : s ≠ 0 → hintCode (hintOf s) = 0 := fun h => by unfold hintOf; rw [if_neg h, if_neg (by omega)]; rfl
  show Calls Tryz.prog 88 _ w fun e w' => e = .returned (.tuple #[.int .i64 (p : Int), .int .i64 (hintCode (hintOf s))]) ∧ Row w w' blk off d
  generalize hintCode (hintOf s) = hc at *
  clear hm eraw hI hJ hK
  clear hH
  go_enter Tryz.func88, Tryz.ntmps88
  go_wp2_with (go_at_call 107; refine HC.out.mono ?_; rintro e w1 ⟨rfl, hc1, hw1⟩)
  all_goals
    go_ret2
    first
    | (have e0 : ((s : Int) == 0) = true := by assumption
       exact ⟨by rw [hh0 (by simpa using e0)]; rfl, hw1⟩)
    | (have e0 : ((s : Int) == 0) = false := by assumption
       exact ⟨by rw [hhx (by simpa using e0)]; rfl, hw1⟩)
    | (have e0 : ((s : Int) == 12) = true := by assumption
       have : (s : Int) = 12 := by simpa using e0
       omega)
end Go.Proofs.YtjcnnjknhemimaaGreatDoor
