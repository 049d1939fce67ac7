/- Contract of the formula machine's SUM of a column. -/
import Derived.Test.YtjcnnjknhemimaaGreatDoorH1
import Derived.LoopN
import Derived.Laws.EntriesVeiled
import Derived.Laws.ComplexArith
namespace Go.Proofs.YtjcnnjknhemimaaGreatDoor
open Go Go.RowKit Ieee Fl
attribute [local go_sem] run_store_float
/-- A number as a formula argument, as a call returns it. -/
def RetN (N : Int) (w : World) (e : Ending) (w' : World) : Prop := ∃ s, e = .returned (.agg #[.string ⟨#[]⟩, .float .f64 s, .string ⟨#[]⟩, .slice none 0 0, .slice none 0 0, .bool false, .string ⟨#[]⟩, .int .u8 1, .pointer none, .pointer none]) ∧ Is s N 0 ∧ Below w.heap.size w w'
theorem Chain.elem {w : World} {n : Nat} {q : Nat → Nat} {vs : List Value} (h : Chain w n q vs) {i : Nat} (hi : i < n) {v : Value} (hv : vs[i]? = some v) : w.cell? ⟨q (i + 1), 3, none⟩ = some (.iface 55 v) := by
  obtain ⟨p1, p2, p3, p4, p5⟩ := h
  obtain ⟨-, f, g, m⟩ := p5 i hi
  rw [hv] at g
  injection g with g
  rw [g]
  exact m
theorem is_numOf {x : Nat} {i : Int} (h : Is x i 0) : Is (numOf x) i 0 := by
  unfold numOf
  split
  · rename_i h0
    have h1 := order_is h (is_int 0 (by decide))
    rw [zero_is] at h1
    have h2 : compare i 0 = .eq := by
      have h3 : (some (compare i 0) : Option Ordering) = some .eq := h1.symm.trans h0
      simpa using h3
    have hi : i = 0 := Int.compare_eq_eq.1 h2
    subst hi
    have := is_int 0 (by decide)
    rw [zero_is] at this
    exact this
  · exact h
theorem is_self {x : Nat} {i : Int} (h : Is x i 0) : FloatKind.f64.format.order x x = some .eq := by
  have := order_is h h
  rw [show compare i i = .eq from by simp] at this
  exact this
theorem run_plus {P : Program} {x y r : Nat} (t : TypeId) (h : double.add x y = some r) (w : World) : (binOp .add t (.float .f64 x) (.float .f64 y)).run P w = .ok (.float .f64 r) w := by
  have h' : floatBits .add .f64 x y = some r := h
  have := run_floatArith (P := P) (w := w) h'
  simpa [binOp] using this
theorem sum_small (ns : List Int) (j : Nat) (h : ∀ x ∈ ns, x.natAbs ≤ 9999) (hl : ns.length ≤ 40) : ((ns.take j).sum).natAbs ≤ 1000000 := by
  have key : ∀ l : List Int, (∀ x ∈ l, x.natAbs ≤ 9999) → l.sum.natAbs ≤ 9999 * l.length := by
    intro l
    induction l with
    | nil => intro _; simp
    | cons x r ih =>
      intro hx
      have h1 := hx x (by simp)
      have h2 := ih (fun y hy => hx y (by simp [hy]))
      rw [List.sum_cons, List.length_cons]
      omega
  have h1 := key (ns.take j) (fun x hx => h x (List.mem_of_mem_take hx))
  have h2 : (ns.take j).length ≤ 40 := by rw [List.length_take]; omega
  omega
theorem grown_trans {w a b : World} {row : Option Nat} (h1 : w.grownBy a row) (h2 : a.grownBy b row) : w.grownBy b row :=
  ⟨h2.os.trans h1.os, h2.tape.trans h1.tape, h2.output.trans h1.output, Nat.le_trans h1.size h2.size, fun k hk hr => (h2.block k (Nat.lt_of_lt_of_le hk h1.size) hr).trans (h1.block k hk hr)⟩
theorem grown_below {w a : World} (row : Option Nat) (h : Below w.heap.size w a) : w.grownBy a row := ⟨h.os, h.tape, h.output, h.size, fun k hk _ => h.block k hk⟩
theorem grown_set (w : World) (S : Nat) (o : Nat) (u : Value) : w.grownBy (w.setCell ⟨S, o, none⟩ u) (some S) :=
  ⟨rfl, rfl, rfl, by simp, fun k _ hr => Below.heap_setCell w _ u k (fun e => hr (by rw [e]))⟩
set_option maxRecDepth 100000 in
set_option maxHeartbeats 2000000 in
/-- The closure at a number. -/
theorem clo_num (y : Int) (hy : y.natAbs ≤ 9999) (S Fb s : Nat) (t : Int) (ht : t.natAbs ≤ 1000000) (hs : Is s t 0) (w : World) (hB : Blk w S 24 #[.float .f64 s]) :
    Calls Tryz.prog 41 #[.agg #[.string ⟨#[]⟩, .float .f64 (word y), .string ⟨#[]⟩, .slice none 0 0, .slice none 0 0, .bool false, .string ⟨#[]⟩, .int .u8 1, .pointer none, .pointer none], .bool true, .pointer (some ⟨S, 0, none⟩), .pointer (some ⟨Fb, 0, none⟩)] w fun e w' => e = .returned (.tuple #[]) ∧ ∃ s', Is s' (t + y) 0 ∧ Blk w' S 24 #[.float .f64 s'] ∧ w.grownBy w' (some S) := by
  obtain ⟨r, hr, hi⟩ := is_add (p := 0) (by omega) hs (word_is y (by omega)) (by omega)
  have hadd := run_plus (P := Tryz.prog) 24 hr
  have c0 : w.cell? ⟨S, 0, none⟩ = some (.float .f64 s) := hB.cell 0
  have f0 : w.frozen? ⟨S, 0, none⟩ = false := hB.frozen 0
  have zS := hB.lt
  have HB := hide hB
  clear hB hr hs
  go_enter Tryz.func41, Tryz.ntmps41
  go_wp2_with fail
  go_end0
  refine ⟨rfl, r, hi, ?_, ?_⟩
  · have := (HB.out.set_ 0 (.float .f64 r)).alloc (.cells #[.string ⟨#[]⟩, .float .f64 (word y), .string ⟨#[]⟩, .slice none 0 0, .slice none 0 0, .bool false, .string ⟨#[]⟩, .int .u8 1, .pointer none, .pointer none] 55)
    simpa using this
  · exact grown_trans (grown_set w S 0 _) (World.grownBy_alloc _ _ _)
set_option maxRecDepth 100000 in
set_option maxHeartbeats 4000000 in
/-- The closure at a column. -/
theorem clo_col (ns : List Int) (hok : OkAr (.col ns)) (A : Option Addr) (n c L1 L2 : Nat) (hn : ns.length = n) (S Fb s hi : Nat) (hs : Is s 0 0) (w : World) (hB : Blk w S 24 #[.float .f64 s]) (hF : w.cell? ⟨Fb, 0, none⟩ = some (.func (.func 41) #[] #[.pointer (some ⟨S, 0, none⟩), .pointer (some ⟨Fb, 0, none⟩)])) (hFb : Fb < w.heap.size) (hne : Fb ≠ S) (hhi : hi ≤ S)
    (hg : Grid w (In 0 hi) fNum A ns) (hL1 : L1 < w.heap.size) (hL2 : L2 < w.heap.size) (c1 : w.cell? ⟨L1, 4, none⟩ = some (.int .i64 0)) (c2 : w.cell? ⟨L2, 4, none⟩ = some (.int .i64 1)) :
    Calls Tryz.prog 41 #[.agg #[.string ⟨#[]⟩, .float .f64 0, .string ⟨#[]⟩, .slice none 0 0, .slice A n c, .bool false, .string ⟨#[]⟩, .int .u8 4, .pointer (some ⟨L1, 0, none⟩), .pointer (some ⟨L2, 0, none⟩)], .bool false, .pointer (some ⟨S, 0, none⟩), .pointer (some ⟨Fb, 0, none⟩)] w fun e w' => e = .returned (.tuple #[]) ∧ ∃ s', Is s' ns.sum 0 ∧ Blk w' S 24 #[.float .f64 s'] ∧ w.grownBy w' (some S) := by
  have zS := hB.lt
  have HB := hide hB
  have HS := hide hok.2.2
  have HN := hide hn
  have hn40 : n ≤ 40 := by have := hok.2.1; omega
  have HT := hide (fun (w1 : World) (hb : Below w.heap.size w w1) => toList_col ns A n c L1 L2 0 hi hn hn40 w1 (by have := hb.size; omega) (RdL.keep (rowOk_keeps _) hg (fun g h => ⟨h, hb.block g (by have := h.2; omega)⟩)))
  have HIS := hide hs
  have HC := hide (fun (W : World) (h : Below w.heap.size w W) => And.intro ((h.cell (p := ⟨L1, 4, none⟩) hL1).trans c1) (And.intro ((h.cell (p := ⟨L2, 4, none⟩) hL2).trans c2) ((h.cell (p := ⟨Fb, 0, none⟩) hFb).trans hF)))
  clear hB hok hn hg hs
  go_enter Tryz.func41, Tryz.ntmps41
  go_wp2_with fail
  refine (len_any L1 0 _ (HC.out _ (by (repeat' (first | (with_reducible exact Below.refl _ _) | (with_reducible assumption) | (with_reducible refine Below.setCell ?_ ?_ _) | (with_reducible refine Below.alloc ?_ ?_ _) | (with_reducible refine Below.drew ?_) | (with_reducible refine below_drewN ?_ _) | (with_reducible refine Below.trans ?_ (Below.mono (by assumption) ?_)) | (simp <;> omega) | omega)))).1).mono ?_
  rintro e w0 ⟨rfl, rfl⟩
  go_wp2_with fail
  refine (len_any L2 1 _ (HC.out _ (by (repeat' (first | (with_reducible exact Below.refl _ _) | (with_reducible assumption) | (with_reducible refine Below.setCell ?_ ?_ _) | (with_reducible refine Below.alloc ?_ ?_ _) | (with_reducible refine Below.drew ?_) | (with_reducible refine below_drewN ?_ _) | (with_reducible refine Below.trans ?_ (Below.mono (by assumption) ?_)) | (simp <;> omega) | omega)))).2.1).mono ?_
  rintro e w0 ⟨rfl, rfl⟩
  go_wp2_with fail
  refine (HT.out _ (by (repeat' (first | (with_reducible exact Below.refl _ _) | (with_reducible assumption) | (with_reducible refine Below.setCell ?_ ?_ _) | (with_reducible refine Below.alloc ?_ ?_ _) | (with_reducible refine Below.drew ?_) | (with_reducible refine below_drewN ?_ _) | (with_reducible refine Below.trans ?_ (Below.mono (by assumption) ?_)) | (simp <;> omega) | omega)))).mono ?_
  rintro e w1 ⟨A1, c1', rfl, hown, hb1⟩
  have hbw1 : Below w.heap.size w w1 := (Below.alloc (Below.refl _ _) (Nat.le_refl _) _).trans (hb1.mono (by simp))
  have hRD := hide (show Rd w1 w1.heap.size 10 A1 n (ns.flatMap fNum) ∧ ∀ g, A1 = some ⟨g, 0, none⟩ → w.heap.size < g from ⟨Rd.of_own hown, fun g hg => by
    have := own_ge hown g (by rw [hg]; rfl)
    simp at this
    omega⟩)
  have hz1 := hbw1.size
  have HB1 := hide (HB.out.below hbw1 zS)
  have hF1 := (HC.out w1 hbw1).2.2
  clear hown hb1 HT
  go_wp2_with fail
  go_loopw [63] (fun i wr => ∃ (j s' : Nat), j ≤ n ∧ i = .int .i64 j ∧ Hid (Is s' (ns.take j).sum 0) ∧ Hid (Blk wr S 24 #[.float .f64 s']) ∧ w1.grownBy wr (some S)) (fun i _ => n - (intOf i).toNat)
  case atStart => exact ⟨0, s, by omega, rfl, hide (by simpa using HIS.out), HB1, World.grownBy.refl w1 _⟩
  case round =>
    obtain ⟨j, s', hj, rfl, hI, hBk, hgr⟩ := hrel
    have hzr := hgr.size
    by_cases hlt : j < n
    · obtain ⟨g, y, rfl, hg, hy, hcs⟩ : ∃ g y, A1 = some ⟨g, 0, none⟩ ∧ g < w1.heap.size ∧ ns[j]? = some y ∧ ∀ t u, (fNum y)[t]? = some u → wr.cell? ⟨g, j * 10 + t, none⟩ = some u := by
        obtain ⟨g, e, hg, hc⟩ := hRD.out.1.2 (by omega)
        obtain ⟨y, hy⟩ : ∃ y, ns[j]? = some y := ⟨_, List.getElem?_eq_getElem (by rw [HN.out]; exact hlt)⟩
        have hgS : w.heap.size < g := hRD.out.2 g e
        refine ⟨g, y, e, hg, hy, fun t u hu => hgr.cell (hc _ u ?_) (fun e => by injection e with e; simp at e; omega)⟩
        rw [flatMap_at fNum 10 fNum_len ns j y hy t (by have := (List.getElem?_eq_some_iff.1 hu).1; simpa [fNum] using this)]
        exact hu
      have d0 : wr.cell? ⟨g, j * 10, none⟩ = some (.string ⟨#[]⟩) := hcs 0 _ rfl
      have d1 : wr.cell? ⟨g, j * 10 + 1, none⟩ = some (.float .f64 (word y)) := hcs 1 _ rfl
      have d2 : wr.cell? ⟨g, j * 10 + 2, none⟩ = some (.string ⟨#[]⟩) := hcs 2 _ rfl
      have d3 : wr.cell? ⟨g, j * 10 + 3, none⟩ = some (.slice none 0 0) := hcs 3 _ rfl
      have d4 : wr.cell? ⟨g, j * 10 + 4, none⟩ = some (.slice none 0 0) := hcs 4 _ rfl
      have d5 : wr.cell? ⟨g, j * 10 + 5, none⟩ = some (.bool false) := hcs 5 _ rfl
      have d6 : wr.cell? ⟨g, j * 10 + 6, none⟩ = some (.string ⟨#[]⟩) := hcs 6 _ rfl
      have d7 : wr.cell? ⟨g, j * 10 + 7, none⟩ = some (.int .u8 1) := hcs 7 _ rfl
      have d8 : wr.cell? ⟨g, j * 10 + 8, none⟩ = some (.pointer none) := hcs 8 _ rfl
      have d9 : wr.cell? ⟨g, j * 10 + 9, none⟩ = some (.pointer none) := hcs 9 _ rfl
      have hFr : wr.cell? ⟨Fb, 0, none⟩ = _ := hgr.cell hF1 (fun e => by injection e with e; exact hne e)
      have hFz : Fb < wr.heap.size := by omega
      have hgz : g < wr.heap.size := by omega
      have hsum := hide (show (ns.take (j + 1)).sum = (ns.take j).sum + y from by rw [List.take_add_one, hy]; simp)
      have HCL := hide (fun (W : World) (hW : Blk W S 24 #[.float .f64 s']) => clo_num y (HS.out y (List.mem_of_getElem? hy)) S Fb s' (ns.take j).sum (sum_small ns j HS.out (by rw [HN.out]; omega)) hI.out W hW)
      clear hy hcs
      have hlti : (j : Int) < n := by omega
      go_wp2_with fail
      refine (HCL.out _ (hBk.out.alloc _)).mono ?_
      rintro e w2 ⟨rfl, s2, hI2, hB2, hg2⟩
      go_wp2_with fail
      go_roundw
      case rel => exact ⟨j + 1, s2, by omega, by go_num, hide (by rw [hsum.out]; exact hI2), hide hB2, grown_trans (grown_trans hgr (World.grownBy_alloc wr _ _)) hg2⟩
      case measure => simp [intOf]; omega
    · obtain rfl : j = n := by omega
      have hlti : ¬ (j : Int) < j := by omega
      go_wp2_with fail
      go_end0
      refine ⟨rfl, s', ?_, hBk.out, grown_trans (grown_below _ hbw1) hgr⟩
      have h := hI.out
      rwa [← HN.out, List.take_length] at h
set_option maxRecDepth 100000 in
set_option maxHeartbeats 4000000 in
theorem SUM_any (ns : List Int) (hok : OkAr (.col ns)) (n : Nat) (hn : ns.length = n) (q : Nat → Nat) (vs : List Value) (p : Value) (w : World) (hch : Chain w 1 q vs) (hargs : Args w (In 0 w.heap.size) [.col ns] vs) :
    Calls Tryz.prog 30 #[p, .pointer (some ⟨q 0, 0, none⟩)] w (RetN ns.sum w) := by
  obtain ⟨cs0, hv0, A, c, L1, L2, rfl, hgrid, hL1, hL2, cL1, cL2⟩ := hargs 0 _ rfl
  have m1 := hch.elem (by omega) hv0
  rw [hn] at m1
  have z0 := (hch.1 0 (by omega)).1
  have z1 := (hch.1 1 (by omega)).1
  have m0 : w.cell? ⟨q 0, 0, none⟩ = some (.pointer (some ⟨q 1, 0, none⟩)) := by have := (hch.1 0 (by omega)).2.2.2; rw [if_pos (by omega)] at this; exact this
  have p4 : w.cell? ⟨q 0, 4, none⟩ = some (.int .i64 1) := hch.2.2.1
  have HCH := hide hch
  have z0' : q 0 < w.heap.size + 1 := by omega
  have z0'' : q 0 < w.heap.size + 1 + 1 := by omega
  have z1' : q 1 < w.heap.size + 1 := by omega
  have z1'' : q 1 < w.heap.size + 1 + 1 := by omega
  have HP := hide (fun (W : World) (h : Below w.heap.size w W) => And.intro ((h.cell (p := ⟨q 0, 4, none⟩) z0).trans p4) ((h.cell (p := ⟨q 0, 0, none⟩) z0).trans m0))
  have hWD : Below w.heap.size w ((((w.alloc (.cells #[.string ⟨#[]⟩, .float .f64 0, .string ⟨#[]⟩, .slice none 0 0, .slice none 0 0, .bool false, .string ⟨#[]⟩, .int .u8 0, .pointer none, .pointer none] 55)).alloc (.cells #[.float .f64 0] 24)).alloc (.cells #[.func (.func 41) #[] #[.pointer (some ⟨w.heap.size + 1, 0, none⟩), .pointer (some ⟨w.heap.size + 1 + 1, 0, none⟩)]] 76)).alloc (.cells #[.string ⟨#[]⟩, .float .f64 0, .string ⟨#[]⟩, .slice none 0 0, .slice A n c, .bool false, .string ⟨#[]⟩, .int .u8 4, .pointer (some ⟨L1, 0, none⟩), .pointer (some ⟨L2, 0, none⟩)] 55)) := by (repeat' (first | (with_reducible exact Below.refl _ _) | (with_reducible assumption) | (with_reducible refine Below.setCell ?_ ?_ _) | (with_reducible refine Below.alloc ?_ ?_ _) | (with_reducible refine Below.drew ?_) | (with_reducible refine below_drewN ?_ _) | (with_reducible refine Below.trans ?_ (Below.mono (by assumption) ?_)) | (simp <;> omega) | omega))
  have hSz : ((((w.alloc (.cells #[.string ⟨#[]⟩, .float .f64 0, .string ⟨#[]⟩, .slice none 0 0, .slice none 0 0, .bool false, .string ⟨#[]⟩, .int .u8 0, .pointer none, .pointer none] 55)).alloc (.cells #[.float .f64 0] 24)).alloc (.cells #[.func (.func 41) #[] #[.pointer (some ⟨w.heap.size + 1, 0, none⟩), .pointer (some ⟨w.heap.size + 1 + 1, 0, none⟩)]] 76)).alloc (.cells #[.string ⟨#[]⟩, .float .f64 0, .string ⟨#[]⟩, .slice none 0 0, .slice A n c, .bool false, .string ⟨#[]⟩, .int .u8 4, .pointer (some ⟨L1, 0, none⟩), .pointer (some ⟨L2, 0, none⟩)] 55)).heap.size = w.heap.size + 4 := by simp
  have hBS : Blk ((((w.alloc (.cells #[.string ⟨#[]⟩, .float .f64 0, .string ⟨#[]⟩, .slice none 0 0, .slice none 0 0, .bool false, .string ⟨#[]⟩, .int .u8 0, .pointer none, .pointer none] 55)).alloc (.cells #[.float .f64 0] 24)).alloc (.cells #[.func (.func 41) #[] #[.pointer (some ⟨w.heap.size + 1, 0, none⟩), .pointer (some ⟨w.heap.size + 1 + 1, 0, none⟩)]] 76)).alloc (.cells #[.string ⟨#[]⟩, .float .f64 0, .string ⟨#[]⟩, .slice none 0 0, .slice A n c, .bool false, .string ⟨#[]⟩, .int .u8 4, .pointer (some ⟨L1, 0, none⟩), .pointer (some ⟨L2, 0, none⟩)] 55)) (w.heap.size + 1) 24 #[.float .f64 0] := (show Blk ((w.alloc (.cells #[.string ⟨#[]⟩, .float .f64 0, .string ⟨#[]⟩, .slice none 0 0, .slice none 0 0, .bool false, .string ⟨#[]⟩, .int .u8 0, .pointer none, .pointer none] 55)).alloc (.cells #[.float .f64 0] 24)) (w.heap.size + 1) 24 #[.float .f64 0] from by simpa using Blk.new (w.alloc (.cells #[.string ⟨#[]⟩, .float .f64 0, .string ⟨#[]⟩, .slice none 0 0, .slice none 0 0, .bool false, .string ⟨#[]⟩, .int .u8 0, .pointer none, .pointer none] 55)) 24 #[.float .f64 0]).alloc _ |>.alloc _
  have hBF : Blk ((((w.alloc (.cells #[.string ⟨#[]⟩, .float .f64 0, .string ⟨#[]⟩, .slice none 0 0, .slice none 0 0, .bool false, .string ⟨#[]⟩, .int .u8 0, .pointer none, .pointer none] 55)).alloc (.cells #[.float .f64 0] 24)).alloc (.cells #[.func (.func 41) #[] #[.pointer (some ⟨w.heap.size + 1, 0, none⟩), .pointer (some ⟨w.heap.size + 1 + 1, 0, none⟩)]] 76)).alloc (.cells #[.string ⟨#[]⟩, .float .f64 0, .string ⟨#[]⟩, .slice none 0 0, .slice A n c, .bool false, .string ⟨#[]⟩, .int .u8 4, .pointer (some ⟨L1, 0, none⟩), .pointer (some ⟨L2, 0, none⟩)] 55)) (w.heap.size + 1 + 1) 76 #[.func (.func 41) #[] #[.pointer (some ⟨w.heap.size + 1, 0, none⟩), .pointer (some ⟨w.heap.size + 1 + 1, 0, none⟩)]] := (show Blk (((w.alloc (.cells #[.string ⟨#[]⟩, .float .f64 0, .string ⟨#[]⟩, .slice none 0 0, .slice none 0 0, .bool false, .string ⟨#[]⟩, .int .u8 0, .pointer none, .pointer none] 55)).alloc (.cells #[.float .f64 0] 24)).alloc (.cells #[.func (.func 41) #[] #[.pointer (some ⟨w.heap.size + 1, 0, none⟩), .pointer (some ⟨w.heap.size + 1 + 1, 0, none⟩)]] 76)) (w.heap.size + 1 + 1) 76 #[.func (.func 41) #[] #[.pointer (some ⟨w.heap.size + 1, 0, none⟩), .pointer (some ⟨w.heap.size + 1 + 1, 0, none⟩)]] from by simpa using Blk.new ((w.alloc (.cells #[.string ⟨#[]⟩, .float .f64 0, .string ⟨#[]⟩, .slice none 0 0, .slice none 0 0, .bool false, .string ⟨#[]⟩, .int .u8 0, .pointer none, .pointer none] 55)).alloc (.cells #[.float .f64 0] 24)) 76 #[.func (.func 41) #[] #[.pointer (some ⟨w.heap.size + 1, 0, none⟩), .pointer (some ⟨w.heap.size + 1 + 1, 0, none⟩)]]).alloc _
  have hBR : Blk ((((w.alloc (.cells #[.string ⟨#[]⟩, .float .f64 0, .string ⟨#[]⟩, .slice none 0 0, .slice none 0 0, .bool false, .string ⟨#[]⟩, .int .u8 0, .pointer none, .pointer none] 55)).alloc (.cells #[.float .f64 0] 24)).alloc (.cells #[.func (.func 41) #[] #[.pointer (some ⟨w.heap.size + 1, 0, none⟩), .pointer (some ⟨w.heap.size + 1 + 1, 0, none⟩)]] 76)).alloc (.cells #[.string ⟨#[]⟩, .float .f64 0, .string ⟨#[]⟩, .slice none 0 0, .slice A n c, .bool false, .string ⟨#[]⟩, .int .u8 4, .pointer (some ⟨L1, 0, none⟩), .pointer (some ⟨L2, 0, none⟩)] 55)) w.heap.size 55 #[.string ⟨#[]⟩, .float .f64 0, .string ⟨#[]⟩, .slice none 0 0, .slice none 0 0, .bool false, .string ⟨#[]⟩, .int .u8 0, .pointer none, .pointer none] := (((Blk.new w _ _).alloc _).alloc _).alloc _
  have HCL := hide (clo_col ns hok A n c L1 L2 hn (w.heap.size + 1) (w.heap.size + 1 + 1) 0 w.heap.size (by have := is_int 0 (by decide); rw [zero_is] at this; exact this) _ hBS (hBF.cell 0) (by rw [hSz]; omega) (by omega) (by omega) (RdL.keep (rowOk_keeps _) hgrid (fun g h => ⟨h, hWD.block g h.2⟩)) (by rw [hSz]; have := hL1.2; omega) (by rw [hSz]; have := hL2.2; omega) ((hWD.cell (p := ⟨L1, 4, none⟩) hL1.2).trans cL1) ((hWD.cell (p := ⟨L2, 4, none⟩) hL2.2).trans cL2))
  have HBR := hide hBR
  have HOK := hide hok.2.2
  have HN := hide hn
  have hl40 : ns.length ≤ 40 := hok.2.1
  clear hBS hBF hBR hWD hgrid cL1 cL2 hL1 hL2 hok hch hargs hv0 hn p4
  go_enter Tryz.func30, Tryz.ntmps30
  go_wp2_with fail
  refine (front_any (q 0) (q 1) 1 (by omega) _ (HP.out _ (by (repeat' (first | (with_reducible exact Below.refl _ _) | (with_reducible assumption) | (with_reducible refine Below.setCell ?_ ?_ _) | (with_reducible refine Below.alloc ?_ ?_ _) | (with_reducible refine Below.drew ?_) | (with_reducible refine below_drewN ?_ _) | (with_reducible refine Below.trans ?_ (Below.mono (by assumption) ?_)) | (simp <;> omega) | omega)))).1 (HP.out _ (by (repeat' (first | (with_reducible exact Below.refl _ _) | (with_reducible assumption) | (with_reducible refine Below.setCell ?_ ?_ _) | (with_reducible refine Below.alloc ?_ ?_ _) | (with_reducible refine Below.drew ?_) | (with_reducible refine below_drewN ?_ _) | (with_reducible refine Below.trans ?_ (Below.mono (by assumption) ?_)) | (simp <;> omega) | omega)))).2).mono ?_
  rintro e w0 ⟨rfl, rfl⟩
  go_wp2_with fail
  refine wp_loop_rounds 2 ?_
  rw [rounds_succ]
  go_wp2_with fail
  refine HCL.out.mono ?_
  rintro e w1 ⟨rfl, s', hI, hB1, hg1⟩
  have hgz1 : w.heap.size + 4 ≤ w1.heap.size := by have := hg1.size; rw [hSz] at this; exact this
  have hbw1 : Below w.heap.size w w1 := ⟨hg1.os, hg1.tape, hg1.output, by omega, fun g hg => (hg1.block g (by rw [hSz]; omega) (fun e => by injection e with e; omega)).trans ((show Below w.heap.size w ((((w.alloc (.cells #[.string ⟨#[]⟩, .float .f64 0, .string ⟨#[]⟩, .slice none 0 0, .slice none 0 0, .bool false, .string ⟨#[]⟩, .int .u8 0, .pointer none, .pointer none] 55)).alloc (.cells #[.float .f64 0] 24)).alloc (.cells #[.func (.func 41) #[] #[.pointer (some ⟨w.heap.size + 1, 0, none⟩), .pointer (some ⟨w.heap.size + 1 + 1, 0, none⟩)]] 76)).alloc (.cells #[.string ⟨#[]⟩, .float .f64 0, .string ⟨#[]⟩, .slice none 0 0, .slice A n c, .bool false, .string ⟨#[]⟩, .int .u8 4, .pointer (some ⟨L1, 0, none⟩), .pointer (some ⟨L2, 0, none⟩)] 55)) by (repeat' (first | (with_reducible exact Below.refl _ _) | (with_reducible assumption) | (with_reducible refine Below.setCell ?_ ?_ _) | (with_reducible refine Below.alloc ?_ ?_ _) | (with_reducible refine Below.drew ?_) | (with_reducible refine below_drewN ?_ _) | (with_reducible refine Below.trans ?_ (Below.mono (by assumption) ?_)) | (simp <;> omega) | omega))).block g hg)⟩
  have hR1 : Blk w1 w.heap.size 55 #[.string ⟨#[]⟩, .float .f64 0, .string ⟨#[]⟩, .slice none 0 0, .slice none 0 0, .bool false, .string ⟨#[]⟩, .int .u8 0, .pointer none, .pointer none] := HBR.out.grown hg1 (fun e => by injection e with e; omega)
  have hs0 : w1.cell? ⟨w.heap.size + 1, 0, none⟩ = some (.float .f64 s') := hB1.cell 0
  have hnx := hide (next_chain_last q 1 vs w1 (HCH.out.below hbw1) 0 (by omega))
  have HR1 := hide hR1
  clear hg1 hB1 hR1 HCL HBR m0 m1
  go_wp2_with fail
  refine hnx.out.mono ?_
  rintro e w2 ⟨rfl, rfl⟩
  go_wp2_with fail
  rw [rounds_succ]
  go_wp2_with fail
  refine (newNumber_any s' (is_self hI) _).mono ?_
  rintro e w2 ⟨rfl, hb2⟩
  dsimp only [F.agg]
  have HR2 := HR1.out.below hb2 (by omega)
  have hz2 := hb2.size
  have q0 : w2.cell? ⟨w.heap.size, 0, none⟩ = some (.string ⟨#[]⟩) := HR2.cell 0
  have q1 : w2.cell? ⟨w.heap.size, 1, none⟩ = some (.float .f64 0) := HR2.cell 1
  have q2 : w2.cell? ⟨w.heap.size, 2, none⟩ = some (.string ⟨#[]⟩) := HR2.cell 2
  have q3 : w2.cell? ⟨w.heap.size, 3, none⟩ = some (.slice none 0 0) := HR2.cell 3
  have q4 : w2.cell? ⟨w.heap.size, 4, none⟩ = some (.slice none 0 0) := HR2.cell 4
  have q5 : w2.cell? ⟨w.heap.size, 5, none⟩ = some (.bool false) := HR2.cell 5
  have q6 : w2.cell? ⟨w.heap.size, 6, none⟩ = some (.string ⟨#[]⟩) := HR2.cell 6
  have q7 : w2.cell? ⟨w.heap.size, 7, none⟩ = some (.int .u8 0) := HR2.cell 7
  have q8 : w2.cell? ⟨w.heap.size, 8, none⟩ = some (.pointer none) := HR2.cell 8
  have q9 : w2.cell? ⟨w.heap.size, 9, none⟩ = some (.pointer none) := HR2.cell 9
  have fq : ∀ o, w2.frozen? ⟨w.heap.size, o, none⟩ = false := HR2.frozen
  have hbw2 : Below w.heap.size w w2 := hbw1.trans (hb2.mono (by omega))
  have hIn := is_numOf hI
  generalize numOf s' = s2 at *
  clear hb2 HR2
  go_wp2_with fail
  refine bodyPost_ret (v := .agg #[.string ⟨#[]⟩, .float .f64 s2, .string ⟨#[]⟩, .slice none 0 0, .slice none 0 0, .bool false, .string ⟨#[]⟩, .int .u8 1, .pointer none, .pointer none]) ?_ rfl ⟨s2, rfl, hIn, ?_⟩
  · simp [results, Tryz.results30, go_sem, q0, q1, q2, q3, q4, q5, q6, q7, q8, q9]
  · (repeat' (first | (with_reducible exact Below.refl _ _) | (with_reducible assumption) | (with_reducible refine Below.setCell ?_ ?_ _) | (with_reducible refine Below.alloc ?_ ?_ _) | (with_reducible refine Below.drew ?_) | (with_reducible refine below_drewN ?_ _) | (with_reducible refine Below.trans ?_ (Below.mono (by assumption) ?_)) | (simp <;> omega) | omega))
end Go.Proofs.YtjcnnjknhemimaaGreatDoor
