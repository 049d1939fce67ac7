/- The walk of laws.FnCuts: true, whatever the text and the two numbers. -/
import Derived.Test.YtoglgdapaonioaaGreatDoorK8
import Derived.Test.YtoglgdapaonioaaGreatDoorL2
import Derived.Deep.CutBlock
import Derived.Deep.DeepCutAuto
import Derived.Deep.RegionHeld3
namespace Go.Proofs.YtoglgdapaonioaaGreatDoor
open Go Go.RowKit Ieee Fl
/-- Blocks of the call's own that hold values, in a world in which the old memory lies as it was. -/
def Held (w wx : World) (l : List (Nat × V)) : Prop := Below w.heap.size w wx ∧ ∀ p ∈ l, (w.heap.size ≤ p.1 ∧ p.1 < wx.heap.size) ∧ (∀ o, wx.cell? ⟨p.1, o, none⟩ = (p.2.cells.toArray)[o]?) ∧ ∀ o, wx.frozen? ⟨p.1, o, none⟩ = false
theorem Held.below {w wx wy : World} {l : List (Nat × V)} (h : Held w wx l) (hb : Below wx.heap.size wx wy) : Held w wy l :=
  ⟨h.1.trans (hb.mono h.1.size), fun p hp => ⟨⟨(h.2 p hp).1.1, Nat.lt_of_lt_of_le (h.2 p hp).1.2 hb.size⟩, fun o => (hb.cell (p := ⟨p.1, o, none⟩) (h.2 p hp).1.2).trans ((h.2 p hp).2.1 o), fun o => (hb.frozen (p := ⟨p.1, o, none⟩) (h.2 p hp).1.2).trans ((h.2 p hp).2.2 o)⟩⟩
theorem Held.drew {w wx : World} {l : List (Nat × V)} (h : Held w wx l) : Held w wx.drew l := ⟨Below.drew h.1, h.2⟩
theorem Held.alloc {w wx : World} {l : List (Nat × V)} (h : Held w wx l) (o : Obj) : Held w (wx.alloc o) l := h.below ((Below.refl _ _).alloc (Nat.le_refl _) o)
theorem Held.new {w wx : World} {l : List (Nat × V)} (h : Held w wx l) (v : V) (t : TypeId) : Held w (wx.alloc (.cells v.cells.toArray t)) ((wx.heap.size, v) :: l) :=
  ⟨(h.alloc _).1, fun p hp => by
    rcases List.mem_cons.1 hp with rfl | hp
    · exact ⟨⟨h.1.size, by simp⟩, fun o => World.cell?_alloc_mark wx _ t (0, 0) o, fun o => by rw [World.frozen?_alloc_mark]; simp⟩
    · exact (h.alloc _).2 p hp⟩
theorem Held.at {w wx : World} {l : List (Nat × V)} (h : Held w wx l) {g : Nat} {v : V} (hm : (g, v) ∈ l) : ∀ o, wx.cell? ⟨g, o, none⟩ = (#[.int .i64 v.k, .int .i64 v.n, .int .i64 v.d, .string v.t, .slice none 0 0] : Array Value)[o]? := (h.2 _ hm).2.1
theorem Held.frz {w wx : World} {l : List (Nat × V)} (h : Held w wx l) {g : Nat} {v : V} (hm : (g, v) ∈ l) : ∀ o, wx.frozen? ⟨g, o, none⟩ = false := (h.2 _ hm).2.2
theorem Held.lt {w wx : World} {l : List (Nat × V)} (h : Held w wx l) {g : Nat} {v : V} (hm : (g, v) ∈ l) : g < wx.heap.size := (h.2 _ hm).1.2
theorem Held.five {w wx : World} {l : List (Nat × V)} {g : Nat} {t : ByteArray} (h : Held w wx ((g, ⟨2, 0, 0, t⟩) :: l)) :
    wx.cell? ⟨g, 0, none⟩ = some (.int .i64 2) ∧ wx.cell? ⟨g, 1, none⟩ = some (.int .i64 0) ∧ wx.cell? ⟨g, 2, none⟩ = some (.int .i64 0) ∧ wx.cell? ⟨g, 3, none⟩ = some (.string t) ∧ wx.cell? ⟨g, 4, none⟩ = some (.slice none 0 0) := by
  have := h.at (g := g) (v := ⟨2, 0, 0, t⟩) (List.mem_cons_self ..)
  exact ⟨this 0, this 1, this 2, this 3, this 4⟩
theorem Held.swap {w wx : World} {a b : Nat × V} {l : List (Nat × V)} (h : Held w wx (a :: b :: l)) : Held w wx (b :: a :: l) :=
  ⟨h.1, fun p hp => h.2 p (by
    simp only [List.mem_cons] at hp ⊢
    rcases hp with hp | hp | hp
    · exact .inr (.inl hp)
    · exact .inl hp
    · exact .inr (.inr hp))⟩
theorem cell_set5 {w : World} {b : Nat} {v0 v : V} (h : ∀ o, w.cell? ⟨b, o, none⟩ = (v0.cells.toArray)[o]?) (o : Nat) :
    (((((w.setCell ⟨b, 0, none⟩ (.int .i64 v.k)).setCell ⟨b, 1, none⟩ (.int .i64 v.n)).setCell ⟨b, 2, none⟩ (.int .i64 v.d)).setCell ⟨b, 3, none⟩ (.string v.t)).setCell ⟨b, 4, none⟩ (.slice none 0 0)).cell? ⟨b, o, none⟩ = (v.cells.toArray)[o]? := by
  have e0 : w.cell? ⟨b, 0, none⟩ = some (.int .i64 v0.k) := h 0
  have e1 : w.cell? ⟨b, 1, none⟩ = some (.int .i64 v0.n) := h 1
  have e2 : w.cell? ⟨b, 2, none⟩ = some (.int .i64 v0.d) := h 2
  have e3 : w.cell? ⟨b, 3, none⟩ = some (.string v0.t) := h 3
  have e4 : w.cell? ⟨b, 4, none⟩ = some (.slice none 0 0) := h 4
  have ne : ∀ i j : Nat, i ≠ j → (⟨b, i, none⟩ : Addr) ≠ ⟨b, j, none⟩ := fun i j hij e => by injection e; omega
  have f0 := fun p => cell_set (v := .int .i64 v.k) e0 p
  have g1 : (w.setCell ⟨b, 0, none⟩ (.int .i64 v.k)).cell? ⟨b, 1, none⟩ = some (.int .i64 v0.n) := by rw [f0, if_neg (ne 1 0 (by omega)), e1]
  have f1 := fun p => cell_set (v := .int .i64 v.n) g1 p
  have g2 : ((w.setCell ⟨b, 0, none⟩ (.int .i64 v.k)).setCell ⟨b, 1, none⟩ (.int .i64 v.n)).cell? ⟨b, 2, none⟩ = some (.int .i64 v0.d) := by rw [f1, if_neg (ne 2 1 (by omega)), f0, if_neg (ne 2 0 (by omega)), e2]
  have f2 := fun p => cell_set (v := .int .i64 v.d) g2 p
  have g3 : (((w.setCell ⟨b, 0, none⟩ (.int .i64 v.k)).setCell ⟨b, 1, none⟩ (.int .i64 v.n)).setCell ⟨b, 2, none⟩ (.int .i64 v.d)).cell? ⟨b, 3, none⟩ = some (.string v0.t) := by rw [f2, if_neg (ne 3 2 (by omega)), f1, if_neg (ne 3 1 (by omega)), f0, if_neg (ne 3 0 (by omega)), e3]
  have f3 := fun p => cell_set (v := .string v.t) g3 p
  have g4 : ((((w.setCell ⟨b, 0, none⟩ (.int .i64 v.k)).setCell ⟨b, 1, none⟩ (.int .i64 v.n)).setCell ⟨b, 2, none⟩ (.int .i64 v.d)).setCell ⟨b, 3, none⟩ (.string v.t)).cell? ⟨b, 4, none⟩ = some (.slice none 0 0) := by rw [f3, if_neg (ne 4 3 (by omega)), f2, if_neg (ne 4 2 (by omega)), f1, if_neg (ne 4 1 (by omega)), f0, if_neg (ne 4 0 (by omega)), e4]
  have f4 := fun p => cell_set (v := .slice none 0 0) g4 p
  rw [f4, f3, f2, f1, f0, h o]
  rcases Nat.lt_or_ge o 5 with ho | ho
  · have : o = 0 ∨ o = 1 ∨ o = 2 ∨ o = 3 ∨ o = 4 := by omega
    rcases this with rfl | rfl | rfl | rfl | rfl <;> simp [V.cells]
  · rw [if_neg (ne o 4 (by omega)), if_neg (ne o 3 (by omega)), if_neg (ne o 2 (by omega)), if_neg (ne o 1 (by omega)), if_neg (ne o 0 (by omega))]
    rw [Array.getElem?_eq_none (by simp [V.cells]; omega), Array.getElem?_eq_none (by simp [V.cells]; omega)]
theorem Held.store {w wx : World} {b : Nat} {v0 : V} {l : List (Nat × V)} (h : Held w wx ((b, v0) :: l)) (v : V) (hne : ∀ p ∈ l, p.1 ≠ b) :
    Held w (((((wx.setCell ⟨b, 0, none⟩ (.int .i64 v.k)).setCell ⟨b, 1, none⟩ (.int .i64 v.n)).setCell ⟨b, 2, none⟩ (.int .i64 v.d)).setCell ⟨b, 3, none⟩ (.string v.t)).setCell ⟨b, 4, none⟩ (.slice none 0 0)) ((b, v) :: l) := by
  obtain ⟨⟨h1, h2⟩, h3, h4⟩ := h.2 _ (List.mem_cons_self ..)
  refine ⟨((((h.1.setCell h1 _).setCell h1 _).setCell h1 _).setCell h1 _).setCell h1 _, fun p hp => ?_⟩
  rcases List.mem_cons.1 hp with rfl | hp
  · exact ⟨⟨h1, by simpa using h2⟩, cell_set5 h3, fun o => by simpa using h4 o⟩
  · obtain ⟨⟨a1, a2⟩, a3, a4⟩ := h.2 p (List.mem_cons_of_mem _ hp)
    have ne : ∀ i j : Nat, (⟨b, i, none⟩ : Addr) ≠ ⟨p.1, j, none⟩ := fun i j e => by
      injection e with e _
      exact hne p hp e.symm
    exact ⟨⟨a1, by simpa using a2⟩, fun o => by
      rw [World.cell?_setCell_other _ _ _ _ (ne _ _), World.cell?_setCell_other _ _ _ _ (ne _ _), World.cell?_setCell_other _ _ _ _ (ne _ _), World.cell?_setCell_other _ _ _ _ (ne _ _), World.cell?_setCell_other _ _ _ _ (ne _ _)]
      exact a3 o, fun o => by simpa using a4 o⟩
theorem Held.add {w wx : World} {b : Nat} {v : V} {l : List (Nat × V)} (h : Held w wx l) (h1 : w.heap.size ≤ b) (hc : ∀ o, wx.cell? ⟨b, o, none⟩ = (v.cells.toArray)[o]?) (hf : ∀ o, wx.frozen? ⟨b, o, none⟩ = false) (h2 : b < wx.heap.size) : Held w wx ((b, v) :: l) :=
  ⟨h.1, fun p hp => by
    rcases List.mem_cons.1 hp with rfl | hp
    · exact ⟨⟨h1, h2⟩, hc, hf⟩
    · exact h.2 p hp⟩
theorem five_set {w : World} {g b : Nat} {t : ByteArray} {u0 u1 u2 u3 u4 : Value} (hne : b ≠ g) (h : (w.cell? ⟨g, 0, none⟩ = some (.int .i64 2) ∧ w.cell? ⟨g, 1, none⟩ = some (.int .i64 0) ∧ w.cell? ⟨g, 2, none⟩ = some (.int .i64 0) ∧ w.cell? ⟨g, 3, none⟩ = some (.string t) ∧ w.cell? ⟨g, 4, none⟩ = some (.slice none 0 0))) :
    ((((((w.setCell ⟨b, 0, none⟩ u0).setCell ⟨b, 1, none⟩ u1).setCell ⟨b, 2, none⟩ u2).setCell ⟨b, 3, none⟩ u3).setCell ⟨b, 4, none⟩ u4).cell? ⟨g, 0, none⟩ = some (.int .i64 2) ∧ (((((w.setCell ⟨b, 0, none⟩ u0).setCell ⟨b, 1, none⟩ u1).setCell ⟨b, 2, none⟩ u2).setCell ⟨b, 3, none⟩ u3).setCell ⟨b, 4, none⟩ u4).cell? ⟨g, 1, none⟩ = some (.int .i64 0) ∧ (((((w.setCell ⟨b, 0, none⟩ u0).setCell ⟨b, 1, none⟩ u1).setCell ⟨b, 2, none⟩ u2).setCell ⟨b, 3, none⟩ u3).setCell ⟨b, 4, none⟩ u4).cell? ⟨g, 2, none⟩ = some (.int .i64 0) ∧ (((((w.setCell ⟨b, 0, none⟩ u0).setCell ⟨b, 1, none⟩ u1).setCell ⟨b, 2, none⟩ u2).setCell ⟨b, 3, none⟩ u3).setCell ⟨b, 4, none⟩ u4).cell? ⟨g, 3, none⟩ = some (.string t) ∧ (((((w.setCell ⟨b, 0, none⟩ u0).setCell ⟨b, 1, none⟩ u1).setCell ⟨b, 2, none⟩ u2).setCell ⟨b, 3, none⟩ u3).setCell ⟨b, 4, none⟩ u4).cell? ⟨g, 4, none⟩ = some (.slice none 0 0)) := by
  have ne : ∀ i j : Nat, (⟨b, i, none⟩ : Addr) ≠ ⟨g, j, none⟩ := fun i j e => by
    injection e with e _
    exact hne e
  have k : ∀ j, (((((w.setCell ⟨b, 0, none⟩ u0).setCell ⟨b, 1, none⟩ u1).setCell ⟨b, 2, none⟩ u2).setCell ⟨b, 3, none⟩ u3).setCell ⟨b, 4, none⟩ u4).cell? ⟨g, j, none⟩ = w.cell? ⟨g, j, none⟩ := fun j => by
    rw [World.cell?_setCell_other _ _ _ _ (ne _ _), World.cell?_setCell_other _ _ _ _ (ne _ _), World.cell?_setCell_other _ _ _ _ (ne _ _), World.cell?_setCell_other _ _ _ _ (ne _ _), World.cell?_setCell_other _ _ _ _ (ne _ _)]
  rw [k, k, k, k, k]
  exact h
theorem rd_new (w : World) (cs : Array Value) (t : TypeId) (vs : List V) (n : Nat) (hn : n = vs.length) (h : cs.toList = cellsV vs) : Rd (w.alloc (.cells cs t)) (w.alloc (.cells cs t)).heap.size 5 (some ⟨w.heap.size, 0, none⟩) n (cellsV vs) := by
  subst hn
  refine ⟨cellsV_length vs, fun _ => ⟨_, rfl, by simp, fun j u hu => ?_⟩⟩
  rw [← h, Array.getElem?_toList] at hu
  exact (World.cell?_alloc_mark w cs t (0, 0) j).trans hu
theorem ascii_low (t : ByteArray) (h : asciiB t = true) : Low t := by
  intro i hi
  have h' : i < t.data.size := hi
  unfold asciiB at h
  rw [List.all_eq_true] at h
  have := h (t.data[i]) (by simp)
  simp at this
  have e : t.get! i = t.data[i] := by
    show t.data[i]! = _
    rw [getElem!_pos t.data i h']
  rw [e]
  omega
theorem whole_small (n : Int) (h : n.natAbs ≤ 1001) (w : World) : Calls Tryz.prog 9 #[.int .i64 n] w fun e w' => e = .returned (.agg #[.int .i64 1, .int .i64 n, .int .i64 1, .string ⟨#[]⟩, .slice none 0 0]) ∧ Below w.heap.size w w' := by
  have := argWhole_any n w
  rw [show wholeV n = ⟨1, n, 1, ⟨#[]⟩⟩ from by unfold wholeV; rw [if_neg (by omega)]] at this
  exact this
theorem wrap_small (x n : Int) (h : x = n) (hn : n.natAbs ≤ 1001) : IntKind.i64.wrap x = n := by
  subst h
  simp [IntKind.wrap, IntKind.signed, IntKind.bits]
  omega
theorem extract_two (t : ByteArray) (a b c : Nat) (h1 : a ≤ b) (h2 : b ≤ c) : t.extract a b ++ t.extract b c = t.extract a c := by
  apply ByteArray.ext
  rw [ByteArray.data_append, ByteArray.data_extract, ByteArray.data_extract, ByteArray.data_extract, Array.extract_append_extract]
  congr 1 <;> omega
theorem extract_whole (t : ByteArray) : t.extract 0 t.size = t := by
  apply ByteArray.ext
  rw [ByteArray.data_extract]
  exact Array.extract_size
set_option maxRecDepth 100000 in
set_option maxHeartbeats 4000000 in
theorem cuts_good (t : ByteArray) (ht : t.size ≤ 1000) (ha : asciiB t = true) (i k : Nat) (hik : i + k ≤ t.size) (w : World) : Calls Tryz.prog 3 #[.string t, .int .i64 i, .int .i64 k] w fun e w' => e = .returned (.bool true) ∧ Below w.heap.size w w' := by
  have hlow := ascii_low t ha
  have hd : decide (t.size ≤ 1000) = true := by simpa using ht
  obtain ⟨j1, hj1, hj1'⟩ : ∃ j : Nat, (t.size : Int) - i = j ∧ j = t.size - i := ⟨t.size - i, by omega, rfl⟩
  obtain ⟨j2, hj2, hj2'⟩ : ∃ j : Nat, (t.size : Int) - i - k = j ∧ j = t.size - i - k := ⟨t.size - i - k, by omega, rfl⟩
  have hb1 : j1 ≤ 1000 := by omega
  have hb2 : j2 ≤ 1000 := by omega
  have HJ1 := hide (wrap_small ((t.size : Int) - i) j1 hj1 (by omega))
  have HJ3 := hide (wrap_small ((i : Int) + 1) ((i : Int) + 1) rfl (by omega))
  have HJ2 : Hid (IntKind.i64.wrap (IntKind.i64.wrap ((t.size : Int) - i) - k) = j2) := hide (by
    rw [HJ1.out]
    exact wrap_small _ _ (by omega) (by omega))
  have HA := hide ha
  obtain ⟨l, el⟩ : ∃ s, t.extract 0 i = s := ⟨_, rfl⟩
  obtain ⟨r, er⟩ : ∃ s, t.extract (t.size - j1) t.size = s := ⟨_, rfl⟩
  obtain ⟨m, em⟩ : ∃ s, t.extract i (i + k) = s := ⟨_, rfl⟩
  obtain ⟨z, ez⟩ : ∃ s, t.extract (t.size - j2) t.size = s := ⟨_, rfl⟩
  have HSl := hide (saidLEFT_any t hlow ht i (by omega))
  have HSr := hide (saidRIGHT_any t hlow ht j1 (by omega))
  have HSm := hide (saidMID_any t hlow ht i k hik)
  have HSz := hide (saidRIGHT_any t hlow ht j2 (by omega))
  rw [el] at HSl
  rw [er] at HSr
  rw [em] at HSm
  rw [ez] at HSz
  have hlr : l ++ r = t := by
    rw [← el, ← er, show t.size - j1 = i by omega, extract_two t 0 i t.size (by omega) (by omega), extract_whole]
  have hlmz : l ++ m ++ z = t := by
    rw [← el, ← em, ← ez, show t.size - j2 = i + k by omega, extract_two t 0 i (i + k) (by omega) (by omega), extract_two t 0 (i + k) t.size (by omega) (by omega), extract_whole]
  have HLR := hide hlr
  have HLMZ := hide hlmz
  have hs1 : l.size + r.size ≤ 9223372036854775807 := by rw [← ByteArray.size_append, hlr]; omega
  have hs2 : l.size + m.size + z.size ≤ 9223372036854775807 := by rw [← ByteArray.size_append, ← ByteArray.size_append, hlmz]; omega
  have HW1 := hide (whole_small i (by omega))
  have HW2 := hide (whole_small j1 (by omega))
  have HW3 := hide (whole_small ((i : Int) + 1) (by omega))
  have HW4 := hide (whole_small k (by omega))
  have HW5 := hide (whole_small j2 (by omega))
  clear el er em ez hj1 hj2 hlr hlmz ha hj1' hj2'
  go_enter Tryz.func3, Tryz.ntmps3
  go_upto_region 5 with (first
    | (go_at_call 4; refine (short_one t w.heap.size 1 _ (by simp)).mono ?_; rintro e w1 ⟨rfl, rfl⟩; rw [hd])
    | (go_at_call 5; refine (ascii_any t ht _).mono ?_; rintro e w1 ⟨rfl, rfl⟩; rw [HA.out]))
  go_cut [7] (fun s7 wx => ∃ gt : Nat, s7 = .pointer (some ⟨gt, 0, none⟩) ∧ Hid (Held w wx [(gt, ⟨2, 0, 0, t⟩)]))
  case first =>
    go_wp2_with fail
    refine (str_any t _).mono ?_
    rintro e w1 ⟨rfl, hb1⟩
    have hb01 : Below w.heap.size w w1 := (Below.alloc (Below.refl _ _) (Nat.le_refl _) _).trans (hb1.mono (by simp))
    have H0 : Held w w1 [] := ⟨hb01, fun p hp => by simp at hp⟩
    go_wp2_with fail
    go_meet
    exact ⟨_, rfl, hide (H0.new ⟨2, 0, 0, t⟩ 26)⟩
  case rest =>
    obtain ⟨gt, rfl, HH⟩ := hcut
    go_upto_region 6 with fail
    go_cut [8] (fun s wx => ∃ g : Nat, s = .pointer (some ⟨g, 0, none⟩) ∧ Hid (Held w wx [(gt, ⟨2, 0, 0, t⟩), (g, ⟨2, 0, 0, l⟩)]))
    case first =>
      have HRd := hide (fun W : World => rd_new W #[.int .i64 2, .int .i64 0, .int .i64 0, .string t, .slice none 0 0, .int .i64 1, .int .i64 i, .int .i64 1, .string ⟨#[]⟩, .slice none 0 0] 26 [⟨2, 0, 0, t⟩, ⟨1, i, 1, ⟨#[]⟩⟩] 2 rfl rfl)
      have hlt := HH.out.lt (g := gt) (v := ⟨2, 0, 0, t⟩) (by simp)
      have Swc : (wc.cell? ⟨gt, 0, none⟩ = some (.int .i64 2) ∧ wc.cell? ⟨gt, 1, none⟩ = some (.int .i64 0) ∧ wc.cell? ⟨gt, 2, none⟩ = some (.int .i64 0) ∧ wc.cell? ⟨gt, 3, none⟩ = some (.string t) ∧ wc.cell? ⟨gt, 4, none⟩ = some (.slice none 0 0)) := HH.out.five
      have hl0 := HH.out.lt (g := gt) (v := ⟨2, 0, 0, t⟩) (by simp)
      have hw0 := HH.out.1.size
      clear HSr HSm HSz HLR HLMZ hs1 hs2 HW1 HW2 HW3 HW4 HW5 HA HJ1 HJ2 HJ3 hd hlow
      go_region_held3 (fun w' => (w'.cell? ⟨gt, 0, none⟩ = some (.int .i64 2) ∧ w'.cell? ⟨gt, 1, none⟩ = some (.int .i64 0) ∧ w'.cell? ⟨gt, 2, none⟩ = some (.int .i64 0) ∧ w'.cell? ⟨gt, 3, none⟩ = some (.string t) ∧ w'.cell? ⟨gt, 4, none⟩ = some (.slice none 0 0))) (first | (with_reducible exact Swc) | (with_reducible exact Swa) | (with_reducible exact Sws) | (with_reducible exact five_set (by omega) Sws) | go_keep) (first
        | (go_at_call 9; refine (whole_small _ (by omega) _).mono ?_; rintro e wa ⟨rfl, hba⟩; have hca : Below wc.heap.size wc wa := (by (repeat' (first | (with_reducible exact Below.refl _ _) | (with_reducible assumption) | (with_reducible refine Below.setCell ?_ ?_ _) | (with_reducible refine Below.alloc ?_ ?_ _) | (with_reducible refine Below.drew ?_) | (with_reducible refine below_drewN ?_ _) | (with_reducible refine Below.trans ?_ (Below.mono (by assumption) ?_)) | (simp <;> omega) | omega))); have HHa := hide (HH.out.below hca); have zwa := hca.size; have Swa : (wa.cell? ⟨gt, 0, none⟩ = some (.int .i64 2) ∧ wa.cell? ⟨gt, 1, none⟩ = some (.int .i64 0) ∧ wa.cell? ⟨gt, 2, none⟩ = some (.int .i64 0) ∧ wa.cell? ⟨gt, 3, none⟩ = some (.string t) ∧ wa.cell? ⟨gt, 4, none⟩ = some (.slice none 0 0)) := HHa.out.five; clear hca)
        | (go_at_call 7; refine (HSl.out _ _ _ (by first | (with_reducible exact HRd.out wa) | (with_reducible exact ((HRd.out wa).alloc (Nat.le_refl _) _).more (by simp)) | (simpa using HRd.out (wa.alloc (.cells #[.int .i64 0, .int .i64 0, .int .i64 0, .string ⟨#[]⟩, .slice none 0 0] 26))))).mono ?_; rintro e ws ⟨rfl, hbs⟩; have hcs : Below wa.heap.size wa ws := (by (repeat' (first | (with_reducible exact Below.refl _ _) | (with_reducible assumption) | (with_reducible refine Below.setCell ?_ ?_ _) | (with_reducible refine Below.alloc ?_ ?_ _) | (with_reducible refine Below.drew ?_) | (with_reducible refine below_drewN ?_ _) | (with_reducible refine Below.trans ?_ (Below.mono (by assumption) ?_)) | (simp <;> omega) | omega))); have HHs := hide (HHa.out.below hcs); have zws := hcs.size; have Sws : (ws.cell? ⟨gt, 0, none⟩ = some (.int .i64 2) ∧ ws.cell? ⟨gt, 1, none⟩ = some (.int .i64 0) ∧ ws.cell? ⟨gt, 2, none⟩ = some (.int .i64 0) ∧ ws.cell? ⟨gt, 3, none⟩ = some (.string t) ∧ ws.cell? ⟨gt, 4, none⟩ = some (.slice none 0 0)) := HHs.out.five; first | (with_reducible_and_instances skip; have oz := own_cells (w := wa.alloc (.cells #[.int .i64 2, .int .i64 0, .int .i64 0, .string t, .slice none 0 0, .int .i64 1, .int .i64 i, .int .i64 1, .string ⟨#[]⟩, .slice none 0 0] 26)) (C := #[.int .i64 0, .int .i64 0, .int .i64 0, .string ⟨#[]⟩, .slice none 0 0]) (t := 26) (hbs.mono (by simp)); rw [show (wa.alloc (.cells #[.int .i64 2, .int .i64 0, .int .i64 0, .string t, .slice none 0 0, .int .i64 1, .int .i64 i, .int .i64 1, .string ⟨#[]⟩, .slice none 0 0] 26)).heap.size = wa.heap.size + 1 from (by simp)] at oz; obtain ⟨cz1, fz1, lz1⟩ := oz) | (with_reducible_and_instances skip; have oz := own_cells (w := wa) (C := #[.int .i64 0, .int .i64 0, .int .i64 0, .string ⟨#[]⟩, .slice none 0 0]) (t := 26) (((Below.refl (wa.heap.size + 1) (wa.alloc (.cells #[.int .i64 0, .int .i64 0, .int .i64 0, .string ⟨#[]⟩, .slice none 0 0] 26))).alloc (by simp) _).trans (hbs.mono (by simp))); obtain ⟨cz1, fz1, lz1⟩ := oz) | (with_reducible_and_instances skip; have oz := own_cells (w := wc) (C := #[.int .i64 0, .int .i64 0, .int .i64 0, .string ⟨#[]⟩, .slice none 0 0]) (t := 26) (((Below.drew (Below.refl (wc.heap.size + 1) (wc.alloc (.cells #[.int .i64 0, .int .i64 0, .int .i64 0, .string ⟨#[]⟩, .slice none 0 0] 26)))).trans (hba.mono (by simp))).trans (hcs.mono (by have := hba.size; simpa using this))); obtain ⟨cz1, fz1, lz1⟩ := oz) | skip))
      all_goals
        go_wp2_with fail
        go_meet
        first
          | exact ⟨_, rfl, hide ((HHs.out.add (v := ⟨0, 0, 0, ⟨#[]⟩⟩) (by omega) cz1 fz1 lz1).store ⟨2, 0, 0, l⟩ (by intro p hp; simp only [List.mem_cons, List.not_mem_nil, or_false] at hp; rcases hp with rfl <;> simp only <;> omega)).swap⟩
          | exact ⟨_, rfl, hide (HHs.out.new ⟨2, 0, 0, l⟩ 26).swap⟩
    case rest =>
      clear HH
      obtain ⟨gl, rfl, HH⟩ := hcut
      go_upto_region 7 with fail
      go_cut [9] (fun s wx => ∃ g : Nat, s = .pointer (some ⟨g, 0, none⟩) ∧ Hid (Held w wx [(gt, ⟨2, 0, 0, t⟩), (g, ⟨2, 0, 0, r⟩), (gl, ⟨2, 0, 0, l⟩)]))
      case first =>
        have HRd := hide (fun W : World => rd_new W #[.int .i64 2, .int .i64 0, .int .i64 0, .string t, .slice none 0 0, .int .i64 1, .int .i64 j1, .int .i64 1, .string ⟨#[]⟩, .slice none 0 0] 26 [⟨2, 0, 0, t⟩, ⟨1, j1, 1, ⟨#[]⟩⟩] 2 rfl rfl)
        have hlt := HH.out.lt (g := gt) (v := ⟨2, 0, 0, t⟩) (by simp)
        have Swc : (wc.cell? ⟨gt, 0, none⟩ = some (.int .i64 2) ∧ wc.cell? ⟨gt, 1, none⟩ = some (.int .i64 0) ∧ wc.cell? ⟨gt, 2, none⟩ = some (.int .i64 0) ∧ wc.cell? ⟨gt, 3, none⟩ = some (.string t) ∧ wc.cell? ⟨gt, 4, none⟩ = some (.slice none 0 0)) := HH.out.five
        have hl0 := HH.out.lt (g := gt) (v := ⟨2, 0, 0, t⟩) (by simp)
        have hl1 := HH.out.lt (g := gl) (v := ⟨2, 0, 0, l⟩) (by simp)
        have hw0 := HH.out.1.size
        clear HSl HSm HSz HLR HLMZ hs1 hs2 HW1 HW2 HW3 HW4 HW5 HA HJ2 HJ3 hd hlow
        go_region_held3 (fun w' => (w'.cell? ⟨gt, 0, none⟩ = some (.int .i64 2) ∧ w'.cell? ⟨gt, 1, none⟩ = some (.int .i64 0) ∧ w'.cell? ⟨gt, 2, none⟩ = some (.int .i64 0) ∧ w'.cell? ⟨gt, 3, none⟩ = some (.string t) ∧ w'.cell? ⟨gt, 4, none⟩ = some (.slice none 0 0))) (first | (with_reducible exact Swc) | (with_reducible exact Swa) | (with_reducible exact Sws) | (with_reducible exact five_set (by omega) Sws) | go_keep) (first
          | (go_at_call 9; rw [HJ1.out]; refine (whole_small _ (by omega) _).mono ?_; rintro e wa ⟨rfl, hba⟩; have hca : Below wc.heap.size wc wa := (by (repeat' (first | (with_reducible exact Below.refl _ _) | (with_reducible assumption) | (with_reducible refine Below.setCell ?_ ?_ _) | (with_reducible refine Below.alloc ?_ ?_ _) | (with_reducible refine Below.drew ?_) | (with_reducible refine below_drewN ?_ _) | (with_reducible refine Below.trans ?_ (Below.mono (by assumption) ?_)) | (simp <;> omega) | omega))); have HHa := hide (HH.out.below hca); have zwa := hca.size; have Swa : (wa.cell? ⟨gt, 0, none⟩ = some (.int .i64 2) ∧ wa.cell? ⟨gt, 1, none⟩ = some (.int .i64 0) ∧ wa.cell? ⟨gt, 2, none⟩ = some (.int .i64 0) ∧ wa.cell? ⟨gt, 3, none⟩ = some (.string t) ∧ wa.cell? ⟨gt, 4, none⟩ = some (.slice none 0 0)) := HHa.out.five; clear hca)
          | (go_at_call 7; refine (HSr.out _ _ _ (by first | (with_reducible exact HRd.out wa) | (with_reducible exact ((HRd.out wa).alloc (Nat.le_refl _) _).more (by simp)) | (simpa using HRd.out (wa.alloc (.cells #[.int .i64 0, .int .i64 0, .int .i64 0, .string ⟨#[]⟩, .slice none 0 0] 26))))).mono ?_; rintro e ws ⟨rfl, hbs⟩; have hcs : Below wa.heap.size wa ws := (by (repeat' (first | (with_reducible exact Below.refl _ _) | (with_reducible assumption) | (with_reducible refine Below.setCell ?_ ?_ _) | (with_reducible refine Below.alloc ?_ ?_ _) | (with_reducible refine Below.drew ?_) | (with_reducible refine below_drewN ?_ _) | (with_reducible refine Below.trans ?_ (Below.mono (by assumption) ?_)) | (simp <;> omega) | omega))); have HHs := hide (HHa.out.below hcs); have zws := hcs.size; have Sws : (ws.cell? ⟨gt, 0, none⟩ = some (.int .i64 2) ∧ ws.cell? ⟨gt, 1, none⟩ = some (.int .i64 0) ∧ ws.cell? ⟨gt, 2, none⟩ = some (.int .i64 0) ∧ ws.cell? ⟨gt, 3, none⟩ = some (.string t) ∧ ws.cell? ⟨gt, 4, none⟩ = some (.slice none 0 0)) := HHs.out.five; first | (with_reducible_and_instances skip; have oz := own_cells (w := wa.alloc (.cells #[.int .i64 2, .int .i64 0, .int .i64 0, .string t, .slice none 0 0, .int .i64 1, .int .i64 j1, .int .i64 1, .string ⟨#[]⟩, .slice none 0 0] 26)) (C := #[.int .i64 0, .int .i64 0, .int .i64 0, .string ⟨#[]⟩, .slice none 0 0]) (t := 26) (hbs.mono (by simp)); rw [show (wa.alloc (.cells #[.int .i64 2, .int .i64 0, .int .i64 0, .string t, .slice none 0 0, .int .i64 1, .int .i64 j1, .int .i64 1, .string ⟨#[]⟩, .slice none 0 0] 26)).heap.size = wa.heap.size + 1 from (by simp)] at oz; obtain ⟨cz1, fz1, lz1⟩ := oz) | (with_reducible_and_instances skip; have oz := own_cells (w := wa) (C := #[.int .i64 0, .int .i64 0, .int .i64 0, .string ⟨#[]⟩, .slice none 0 0]) (t := 26) (((Below.refl (wa.heap.size + 1) (wa.alloc (.cells #[.int .i64 0, .int .i64 0, .int .i64 0, .string ⟨#[]⟩, .slice none 0 0] 26))).alloc (by simp) _).trans (hbs.mono (by simp))); obtain ⟨cz1, fz1, lz1⟩ := oz) | (with_reducible_and_instances skip; have oz := own_cells (w := wc) (C := #[.int .i64 0, .int .i64 0, .int .i64 0, .string ⟨#[]⟩, .slice none 0 0]) (t := 26) (((Below.drew (Below.refl (wc.heap.size + 1) (wc.alloc (.cells #[.int .i64 0, .int .i64 0, .int .i64 0, .string ⟨#[]⟩, .slice none 0 0] 26)))).trans (hba.mono (by simp))).trans (hcs.mono (by have := hba.size; simpa using this))); obtain ⟨cz1, fz1, lz1⟩ := oz) | skip))
        all_goals
          go_wp2_with fail
          go_meet
          first
            | exact ⟨_, rfl, hide ((HHs.out.add (v := ⟨0, 0, 0, ⟨#[]⟩⟩) (by omega) cz1 fz1 lz1).store ⟨2, 0, 0, r⟩ (by intro p hp; simp only [List.mem_cons, List.not_mem_nil, or_false] at hp; rcases hp with rfl | rfl <;> simp only <;> omega)).swap⟩
            | exact ⟨_, rfl, hide (HHs.out.new ⟨2, 0, 0, r⟩ 26).swap⟩
      case rest =>
        clear HH
        obtain ⟨gr, rfl, HH⟩ := hcut
        go_upto_region 8 with fail
        go_cut [10] (fun s wx => ∃ g : Nat, s = .pointer (some ⟨g, 0, none⟩) ∧ Hid (Held w wx [(gt, ⟨2, 0, 0, t⟩), (g, ⟨2, 0, 0, m⟩), (gr, ⟨2, 0, 0, r⟩), (gl, ⟨2, 0, 0, l⟩)]))
        case first =>
          have HRd := hide (fun W : World => rd_new W #[.int .i64 2, .int .i64 0, .int .i64 0, .string t, .slice none 0 0, .int .i64 1, .int .i64 ((i : Int) + 1), .int .i64 1, .string ⟨#[]⟩, .slice none 0 0, .int .i64 1, .int .i64 k, .int .i64 1, .string ⟨#[]⟩, .slice none 0 0] 26 [⟨2, 0, 0, t⟩, ⟨1, ((i : Int) + 1), 1, ⟨#[]⟩⟩, ⟨1, k, 1, ⟨#[]⟩⟩] 3 rfl rfl)
          have hlt := HH.out.lt (g := gt) (v := ⟨2, 0, 0, t⟩) (by simp)
          have Swc : (wc.cell? ⟨gt, 0, none⟩ = some (.int .i64 2) ∧ wc.cell? ⟨gt, 1, none⟩ = some (.int .i64 0) ∧ wc.cell? ⟨gt, 2, none⟩ = some (.int .i64 0) ∧ wc.cell? ⟨gt, 3, none⟩ = some (.string t) ∧ wc.cell? ⟨gt, 4, none⟩ = some (.slice none 0 0)) := HH.out.five
          have hl0 := HH.out.lt (g := gt) (v := ⟨2, 0, 0, t⟩) (by simp)
          have hl1 := HH.out.lt (g := gr) (v := ⟨2, 0, 0, r⟩) (by simp)
          have hl2 := HH.out.lt (g := gl) (v := ⟨2, 0, 0, l⟩) (by simp)
          have hw0 := HH.out.1.size
          clear HSl HSr HSz HLR HLMZ hs1 hs2 HW1 HW2 HW5 HA HJ1 HJ2 hd hlow
          go_region_held3 (fun w' => (w'.cell? ⟨gt, 0, none⟩ = some (.int .i64 2) ∧ w'.cell? ⟨gt, 1, none⟩ = some (.int .i64 0) ∧ w'.cell? ⟨gt, 2, none⟩ = some (.int .i64 0) ∧ w'.cell? ⟨gt, 3, none⟩ = some (.string t) ∧ w'.cell? ⟨gt, 4, none⟩ = some (.slice none 0 0))) (first | (with_reducible exact Swc) | (with_reducible exact Swa) | (with_reducible exact Sws) | (with_reducible exact five_set (by omega) Sws) | go_keep) (first
            | (go_at_call 9; rw [HJ3.out]; with_reducible refine (HW3.out _).mono ?_; rintro e wa ⟨rfl, hba⟩; have hca : Below wc.heap.size wc wa := (by (repeat' (first | (with_reducible exact Below.refl _ _) | (with_reducible assumption) | (with_reducible refine Below.setCell ?_ ?_ _) | (with_reducible refine Below.alloc ?_ ?_ _) | (with_reducible refine Below.drew ?_) | (with_reducible refine below_drewN ?_ _) | (with_reducible refine Below.trans ?_ (Below.mono (by assumption) ?_)) | (simp <;> omega) | omega))); have HHa := hide (HH.out.below hca); have zwa := hca.size; have Swa : (wa.cell? ⟨gt, 0, none⟩ = some (.int .i64 2) ∧ wa.cell? ⟨gt, 1, none⟩ = some (.int .i64 0) ∧ wa.cell? ⟨gt, 2, none⟩ = some (.int .i64 0) ∧ wa.cell? ⟨gt, 3, none⟩ = some (.string t) ∧ wa.cell? ⟨gt, 4, none⟩ = some (.slice none 0 0)) := HHa.out.five; clear hca)
            | (go_at_call 9; with_reducible refine (HW4.out _).mono ?_; rintro e wb ⟨rfl, hbb⟩; have hcb : Below wa.heap.size wa wb := (by (repeat' (first | (with_reducible exact Below.refl _ _) | (with_reducible assumption) | (with_reducible refine Below.setCell ?_ ?_ _) | (with_reducible refine Below.alloc ?_ ?_ _) | (with_reducible refine Below.drew ?_) | (with_reducible refine below_drewN ?_ _) | (with_reducible refine Below.trans ?_ (Below.mono (by assumption) ?_)) | (simp <;> omega) | omega))); have HHb := hide (HHa.out.below hcb); have zwb := hcb.size; have Swb : (wb.cell? ⟨gt, 0, none⟩ = some (.int .i64 2) ∧ wb.cell? ⟨gt, 1, none⟩ = some (.int .i64 0) ∧ wb.cell? ⟨gt, 2, none⟩ = some (.int .i64 0) ∧ wb.cell? ⟨gt, 3, none⟩ = some (.string t) ∧ wb.cell? ⟨gt, 4, none⟩ = some (.slice none 0 0)) := HHb.out.five; skip)
            | (go_at_call 7; refine (HSm.out _ _ _ (by first | (with_reducible exact HRd.out wb) | (with_reducible exact ((HRd.out wb).alloc (Nat.le_refl _) _).more (by simp)) | (simpa using HRd.out (wb.alloc (.cells #[.int .i64 0, .int .i64 0, .int .i64 0, .string ⟨#[]⟩, .slice none 0 0] 26))))).mono ?_; rintro e ws ⟨rfl, hbs⟩; have hcs : Below wb.heap.size wb ws := (by (repeat' (first | (with_reducible exact Below.refl _ _) | (with_reducible assumption) | (with_reducible refine Below.setCell ?_ ?_ _) | (with_reducible refine Below.alloc ?_ ?_ _) | (with_reducible refine Below.drew ?_) | (with_reducible refine below_drewN ?_ _) | (with_reducible refine Below.trans ?_ (Below.mono (by assumption) ?_)) | (simp <;> omega) | omega))); have HHs := hide (HHb.out.below hcs); have zws := hcs.size; have Sws : (ws.cell? ⟨gt, 0, none⟩ = some (.int .i64 2) ∧ ws.cell? ⟨gt, 1, none⟩ = some (.int .i64 0) ∧ ws.cell? ⟨gt, 2, none⟩ = some (.int .i64 0) ∧ ws.cell? ⟨gt, 3, none⟩ = some (.string t) ∧ ws.cell? ⟨gt, 4, none⟩ = some (.slice none 0 0)) := HHs.out.five; first | (with_reducible_and_instances skip; have oz := own_cells (w := wb.alloc (.cells #[.int .i64 2, .int .i64 0, .int .i64 0, .string t, .slice none 0 0, .int .i64 1, .int .i64 ((i : Int) + 1), .int .i64 1, .string ⟨#[]⟩, .slice none 0 0, .int .i64 1, .int .i64 k, .int .i64 1, .string ⟨#[]⟩, .slice none 0 0] 26)) (C := #[.int .i64 0, .int .i64 0, .int .i64 0, .string ⟨#[]⟩, .slice none 0 0]) (t := 26) (hbs.mono (by simp)); rw [show (wb.alloc (.cells #[.int .i64 2, .int .i64 0, .int .i64 0, .string t, .slice none 0 0, .int .i64 1, .int .i64 ((i : Int) + 1), .int .i64 1, .string ⟨#[]⟩, .slice none 0 0, .int .i64 1, .int .i64 k, .int .i64 1, .string ⟨#[]⟩, .slice none 0 0] 26)).heap.size = wb.heap.size + 1 from (by simp)] at oz; obtain ⟨cz1, fz1, lz1⟩ := oz) | (with_reducible_and_instances skip; have oz := own_cells (w := wb) (C := #[.int .i64 0, .int .i64 0, .int .i64 0, .string ⟨#[]⟩, .slice none 0 0]) (t := 26) (((Below.refl (wb.heap.size + 1) (wb.alloc (.cells #[.int .i64 0, .int .i64 0, .int .i64 0, .string ⟨#[]⟩, .slice none 0 0] 26))).alloc (by simp) _).trans (hbs.mono (by simp))); obtain ⟨cz1, fz1, lz1⟩ := oz) | (with_reducible_and_instances skip; have oz := own_cells (w := wa) (C := #[.int .i64 0, .int .i64 0, .int .i64 0, .string ⟨#[]⟩, .slice none 0 0]) (t := 26) ((hbb.mono (by simp)).trans (hcs.mono (by have := hbb.size; simpa using this))); obtain ⟨cz1, fz1, lz1⟩ := oz) | (with_reducible_and_instances skip; have oz := own_cells (w := wc) (C := #[.int .i64 0, .int .i64 0, .int .i64 0, .string ⟨#[]⟩, .slice none 0 0]) (t := 26) (((Below.drew (Below.refl (wc.heap.size + 1) (wc.alloc (.cells #[.int .i64 0, .int .i64 0, .int .i64 0, .string ⟨#[]⟩, .slice none 0 0] 26)))).trans (hba.mono (by simp))).trans ((hcb.mono (by have := hba.size; simpa using this)).trans (hcs.mono (by have h1 := hba.size; have h2 := hcb.size; simp at h1; omega)))); obtain ⟨cz1, fz1, lz1⟩ := oz) | skip))
          all_goals
            go_wp2_with fail
            go_meet
            first
              | exact ⟨_, rfl, hide ((HHs.out.add (v := ⟨0, 0, 0, ⟨#[]⟩⟩) (by omega) cz1 fz1 lz1).store ⟨2, 0, 0, m⟩ (by intro p hp; simp only [List.mem_cons, List.not_mem_nil, or_false] at hp; rcases hp with rfl | rfl | rfl <;> simp only <;> omega)).swap⟩
              | exact ⟨_, rfl, hide (HHs.out.new ⟨2, 0, 0, m⟩ 26).swap⟩
        case rest =>
          clear HH
          obtain ⟨gm, rfl, HH⟩ := hcut
          go_upto_region 9 with fail
          go_cut [11] (fun s wx => ∃ g : Nat, s = .pointer (some ⟨g, 0, none⟩) ∧ Hid (Held w wx [(gt, ⟨2, 0, 0, t⟩), (g, ⟨2, 0, 0, z⟩), (gm, ⟨2, 0, 0, m⟩), (gr, ⟨2, 0, 0, r⟩), (gl, ⟨2, 0, 0, l⟩)]))
          case first =>
            have HRd := hide (fun W : World => rd_new W #[.int .i64 2, .int .i64 0, .int .i64 0, .string t, .slice none 0 0, .int .i64 1, .int .i64 j2, .int .i64 1, .string ⟨#[]⟩, .slice none 0 0] 26 [⟨2, 0, 0, t⟩, ⟨1, j2, 1, ⟨#[]⟩⟩] 2 rfl rfl)
            have hlt := HH.out.lt (g := gt) (v := ⟨2, 0, 0, t⟩) (by simp)
            have Swc : (wc.cell? ⟨gt, 0, none⟩ = some (.int .i64 2) ∧ wc.cell? ⟨gt, 1, none⟩ = some (.int .i64 0) ∧ wc.cell? ⟨gt, 2, none⟩ = some (.int .i64 0) ∧ wc.cell? ⟨gt, 3, none⟩ = some (.string t) ∧ wc.cell? ⟨gt, 4, none⟩ = some (.slice none 0 0)) := HH.out.five
            have hl0 := HH.out.lt (g := gt) (v := ⟨2, 0, 0, t⟩) (by simp)
            have hl1 := HH.out.lt (g := gm) (v := ⟨2, 0, 0, m⟩) (by simp)
            have hl2 := HH.out.lt (g := gr) (v := ⟨2, 0, 0, r⟩) (by simp)
            have hl3 := HH.out.lt (g := gl) (v := ⟨2, 0, 0, l⟩) (by simp)
            have hw0 := HH.out.1.size
            clear HSl HSr HSm HLR HLMZ hs1 hs2 HW1 HW2 HW3 HW4 HW5 HA HJ1 HJ3 hd hlow
            go_region_held3 (fun w' => (w'.cell? ⟨gt, 0, none⟩ = some (.int .i64 2) ∧ w'.cell? ⟨gt, 1, none⟩ = some (.int .i64 0) ∧ w'.cell? ⟨gt, 2, none⟩ = some (.int .i64 0) ∧ w'.cell? ⟨gt, 3, none⟩ = some (.string t) ∧ w'.cell? ⟨gt, 4, none⟩ = some (.slice none 0 0))) (first | (with_reducible exact Swc) | (with_reducible exact Swa) | (with_reducible exact Sws) | (with_reducible exact five_set (by omega) Sws) | go_keep) (first
              | (go_at_call 9; rw [HJ2.out]; refine (whole_small _ (by omega) _).mono ?_; rintro e wa ⟨rfl, hba⟩; have hca : Below wc.heap.size wc wa := (by (repeat' (first | (with_reducible exact Below.refl _ _) | (with_reducible assumption) | (with_reducible refine Below.setCell ?_ ?_ _) | (with_reducible refine Below.alloc ?_ ?_ _) | (with_reducible refine Below.drew ?_) | (with_reducible refine below_drewN ?_ _) | (with_reducible refine Below.trans ?_ (Below.mono (by assumption) ?_)) | (simp <;> omega) | omega))); have HHa := hide (HH.out.below hca); have zwa := hca.size; have Swa : (wa.cell? ⟨gt, 0, none⟩ = some (.int .i64 2) ∧ wa.cell? ⟨gt, 1, none⟩ = some (.int .i64 0) ∧ wa.cell? ⟨gt, 2, none⟩ = some (.int .i64 0) ∧ wa.cell? ⟨gt, 3, none⟩ = some (.string t) ∧ wa.cell? ⟨gt, 4, none⟩ = some (.slice none 0 0)) := HHa.out.five; clear hca)
              | (go_at_call 7; refine (HSz.out _ _ _ (by first | (with_reducible exact HRd.out wa) | (with_reducible exact ((HRd.out wa).alloc (Nat.le_refl _) _).more (by simp)) | (simpa using HRd.out (wa.alloc (.cells #[.int .i64 0, .int .i64 0, .int .i64 0, .string ⟨#[]⟩, .slice none 0 0] 26))))).mono ?_; rintro e ws ⟨rfl, hbs⟩; have hcs : Below wa.heap.size wa ws := (by (repeat' (first | (with_reducible exact Below.refl _ _) | (with_reducible assumption) | (with_reducible refine Below.setCell ?_ ?_ _) | (with_reducible refine Below.alloc ?_ ?_ _) | (with_reducible refine Below.drew ?_) | (with_reducible refine below_drewN ?_ _) | (with_reducible refine Below.trans ?_ (Below.mono (by assumption) ?_)) | (simp <;> omega) | omega))); have HHs := hide (HHa.out.below hcs); have zws := hcs.size; have Sws : (ws.cell? ⟨gt, 0, none⟩ = some (.int .i64 2) ∧ ws.cell? ⟨gt, 1, none⟩ = some (.int .i64 0) ∧ ws.cell? ⟨gt, 2, none⟩ = some (.int .i64 0) ∧ ws.cell? ⟨gt, 3, none⟩ = some (.string t) ∧ ws.cell? ⟨gt, 4, none⟩ = some (.slice none 0 0)) := HHs.out.five; first | (with_reducible_and_instances skip; have oz := own_cells (w := wa.alloc (.cells #[.int .i64 2, .int .i64 0, .int .i64 0, .string t, .slice none 0 0, .int .i64 1, .int .i64 j2, .int .i64 1, .string ⟨#[]⟩, .slice none 0 0] 26)) (C := #[.int .i64 0, .int .i64 0, .int .i64 0, .string ⟨#[]⟩, .slice none 0 0]) (t := 26) (hbs.mono (by simp)); rw [show (wa.alloc (.cells #[.int .i64 2, .int .i64 0, .int .i64 0, .string t, .slice none 0 0, .int .i64 1, .int .i64 j2, .int .i64 1, .string ⟨#[]⟩, .slice none 0 0] 26)).heap.size = wa.heap.size + 1 from (by simp)] at oz; obtain ⟨cz1, fz1, lz1⟩ := oz) | (with_reducible_and_instances skip; have oz := own_cells (w := wa) (C := #[.int .i64 0, .int .i64 0, .int .i64 0, .string ⟨#[]⟩, .slice none 0 0]) (t := 26) (((Below.refl (wa.heap.size + 1) (wa.alloc (.cells #[.int .i64 0, .int .i64 0, .int .i64 0, .string ⟨#[]⟩, .slice none 0 0] 26))).alloc (by simp) _).trans (hbs.mono (by simp))); obtain ⟨cz1, fz1, lz1⟩ := oz) | (with_reducible_and_instances skip; have oz := own_cells (w := wc) (C := #[.int .i64 0, .int .i64 0, .int .i64 0, .string ⟨#[]⟩, .slice none 0 0]) (t := 26) (((Below.drew (Below.refl (wc.heap.size + 1) (wc.alloc (.cells #[.int .i64 0, .int .i64 0, .int .i64 0, .string ⟨#[]⟩, .slice none 0 0] 26)))).trans (hba.mono (by simp))).trans (hcs.mono (by have := hba.size; simpa using this))); obtain ⟨cz1, fz1, lz1⟩ := oz) | skip))
            all_goals
              go_wp2_with fail
              go_meet
              first
                | exact ⟨_, rfl, hide ((HHs.out.add (v := ⟨0, 0, 0, ⟨#[]⟩⟩) (by omega) cz1 fz1 lz1).store ⟨2, 0, 0, z⟩ (by intro p hp; simp only [List.mem_cons, List.not_mem_nil, or_false] at hp; rcases hp with rfl | rfl | rfl | rfl <;> simp only <;> omega)).swap⟩
                | exact ⟨_, rfl, hide (HHs.out.new ⟨2, 0, 0, z⟩ 26).swap⟩
          case rest =>
            clear HH
            obtain ⟨gz, rfl, HH⟩ := hcut
            have hlr := HLR.out
            have hlmz := HLMZ.out
            have c0 : ∀ o, wc.cell? ⟨gt, o, none⟩ = (#[.int .i64 2, .int .i64 0, .int .i64 0, .string t, .slice none 0 0] : Array Value)[o]? := HH.out.at (g := gt) (v := ⟨2, 0, 0, t⟩) (by simp)
            have c1 : ∀ o, wc.cell? ⟨gz, o, none⟩ = (#[.int .i64 2, .int .i64 0, .int .i64 0, .string z, .slice none 0 0] : Array Value)[o]? := HH.out.at (g := gz) (v := ⟨2, 0, 0, z⟩) (by simp)
            have c2 : ∀ o, wc.cell? ⟨gm, o, none⟩ = (#[.int .i64 2, .int .i64 0, .int .i64 0, .string m, .slice none 0 0] : Array Value)[o]? := HH.out.at (g := gm) (v := ⟨2, 0, 0, m⟩) (by simp)
            have c3 : ∀ o, wc.cell? ⟨gr, o, none⟩ = (#[.int .i64 2, .int .i64 0, .int .i64 0, .string r, .slice none 0 0] : Array Value)[o]? := HH.out.at (g := gr) (v := ⟨2, 0, 0, r⟩) (by simp)
            have c4 : ∀ o, wc.cell? ⟨gl, o, none⟩ = (#[.int .i64 2, .int .i64 0, .int .i64 0, .string l, .slice none 0 0] : Array Value)[o]? := HH.out.at (g := gl) (v := ⟨2, 0, 0, l⟩) (by simp)
            have hbw := HH.out.1
            clear HSl HSr HSm HSz HW1 HW2 HW3 HW4 HW5 HJ1 HJ2 HJ3 HA hd hlow HH HLR HLMZ
            go_wp2_with fail
            go_ret
            exact ⟨rfl, hbw⟩
end Go.Proofs.YtoglgdapaonioaaGreatDoor
