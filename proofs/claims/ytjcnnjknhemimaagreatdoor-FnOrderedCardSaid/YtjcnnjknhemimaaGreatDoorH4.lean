/- Contracts of the formula machine's MAX and MIN of a column (printed by wip/mkh4.py). -/
import Derived.Test.YtjcnnjknhemimaaGreatDoorH3
namespace Go.Proofs.YtjcnnjknhemimaaGreatDoor
open Go Go.RowKit Ieee Fl
attribute [local go_sem] run_store_float
def edge : Int := 9007199254740991 * 2 ^ 971
theorem edge_big (y : Int) (h : y.natAbs ≤ 9999) : -edge < y ∧ y < edge := by
  have h1 : (1 : Int) ≤ 2 ^ 971 := Int.pow_pos (by decide)
  unfold edge
  generalize (2 : Int) ^ 971 = p at h1
  omega
theorem is_low : Is 18442240474082181119 (-edge) 0 := by
  refine ⟨true, 9007199254740991, 971, 0, by decide +kernel, by decide, by decide, ?_⟩
  have e : ((971 : Int) + ((0 : Nat) : Int)).toNat = 971 := by decide
  rw [e]
  unfold edge
  generalize (2 : Int) ^ 971 = p
  simp [sg]
  omega
theorem is_high : Is 9218868437227405311 edge 0 := by
  refine ⟨false, 9007199254740991, 971, 0, by decide +kernel, by decide, by decide, ?_⟩
  have e : ((971 : Int) + ((0 : Nat) : Int)).toNat = 971 := by decide
  rw [e]
  unfold edge
  generalize (2 : Int) ^ 971 = p
  simp [sg]
theorem word_order (x y : Int) (hx : x.natAbs ≤ 9999) (hy : y.natAbs ≤ 9999) : FloatKind.f64.format.order (word x) (word y) = some (compare x y) := order_is (word_is x (by omega)) (word_is y (by omega))
def Great (M : Int) (l : List Int) : Prop := M ∈ l ∧ ∀ x ∈ l, x ≤ M
def Least (M : Int) (l : List Int) : Prop := M ∈ l ∧ ∀ x ∈ l, M ≤ x
/-- What has been found after some numbers. -/
def Foundmax (l : List Int) (m : Nat) : Prop := (l = [] ∧ m = 18442240474082181119) ∨ ∃ M, m = word M ∧ Great M l
theorem foundmax_yes {l : List Int} {m : Nat} {y : Int} (hl : ∀ x ∈ l, x.natAbs ≤ 9999) (hy : y.natAbs ≤ 9999) (h : Foundmax l m) (hc : (FloatKind.f64.format.order (word y) m == some .gt) = true) : Foundmax (l ++ [y]) (word y) := by
  refine .inr ⟨y, rfl, by simp, fun x hx => ?_⟩
  rcases List.mem_append.1 hx with h1 | h1
  · rcases h with ⟨rfl, _⟩ | ⟨M, rfl, hM, hle⟩
    · simp at h1
    · rw [word_order y M hy (hl M hM)] at hc
      have h2 : compare y M = .gt := by simpa using hc
      have h3 := Int.compare_eq_gt.1 h2
      have h4 := hle x h1
      omega
  · rw [List.mem_singleton.1 h1]; exact Int.le_refl _
theorem foundmax_no {l : List Int} {m : Nat} {y : Int} (hl : ∀ x ∈ l, x.natAbs ≤ 9999) (hy : y.natAbs ≤ 9999) (h : Foundmax l m) (hc : (FloatKind.f64.format.order (word y) m == some .gt) = false) : Foundmax (l ++ [y]) m := by
  rcases h with ⟨rfl, rfl⟩ | ⟨M, rfl, hM, hle⟩
  · exfalso
    have h1 : FloatKind.f64.format.order (word y) 18442240474082181119 = some (compare y (-edge)) := order_is (word_is y (by omega)) is_low
    rw [h1, Int.compare_eq_gt.2 (edge_big y hy).1] at hc
    simp at hc
  · refine .inr ⟨M, rfl, by simp [hM], fun x hx => ?_⟩
    rcases List.mem_append.1 hx with h1 | h1
    · exact hle x h1
    · rw [List.mem_singleton.1 h1]
      rw [word_order y M hy (hl M hM)] at hc
      have h2 : compare y M ≠ .gt := by simpa using hc
      have h3 : ¬ (M < y) := fun h => h2 (Int.compare_eq_gt.2 h)
      omega
theorem foundmax_far {l : List Int} {m : Nat} (hl : ∀ x ∈ l, x.natAbs ≤ 9999) (hne : l ≠ []) (h : Foundmax l m) : ∃ M, m = word M ∧ Great M l ∧ M.natAbs ≤ 9999 ∧ (FloatKind.f64.format.order m 18442240474082181119 == some .eq) = false := by
  rcases h with ⟨h, _⟩ | ⟨M, rfl, hM, hle⟩
  · exact absurd h hne
  · refine ⟨M, rfl, ⟨hM, hle⟩, hl M hM, ?_⟩
    have h1 : FloatKind.f64.format.order (word M) 18442240474082181119 = some (compare M (-edge)) := order_is (word_is M (by have := hl M hM; omega)) is_low
    rw [h1, Int.compare_eq_gt.2 (edge_big M (hl M hM)).1]
    rfl
def RetWmax (ns : List Int) (w : World) (e : Ending) (w' : World) : Prop := ∃ m, e = .returned (.float .f64 m) ∧ Foundmax ns m ∧ Below w.heap.size w w'
set_option maxRecDepth 100000 in
set_option maxHeartbeats 4000000 in
theorem calcmax (ns : List Int) (hok : OkAr (.col ns)) (A : Option Addr) (n c L1 L2 lo hi : Nat) (hn : ns.length = n) (w : World) (hhi : hi ≤ w.heap.size) (hg : Grid w (In lo hi) fNum A ns) :
    Calls Tryz.prog 68 #[.bool false, .float .f64 18442240474082181119, .agg #[.string ⟨#[]⟩, .float .f64 0, .string ⟨#[]⟩, .slice none 0 0, .slice A n c, .bool false, .string ⟨#[]⟩, .int .u8 4, .pointer (some ⟨L1, 0, none⟩), .pointer (some ⟨L2, 0, none⟩)]] w (RetWmax ns w) := by
  have HS := hide hok.2.2
  have HN := hide hn
  have hn40 : n ≤ 40 := by have := hok.2.1; omega
  have HT := hide (fun (w1 : World) (hb : Below w.heap.size w w1) => toList_col ns A n c L1 L2 lo hi hn hn40 w1 (by have := hb.size; omega) (RdL.keep (rowOk_keeps _) hg (fun g h => ⟨h, hb.block g (by have := h.2; omega)⟩)))
  clear hok hn hg
  obtain ⟨m0, hm0⟩ : ∃ m0 : Nat, m0 = 18442240474082181119 := ⟨_, rfl⟩
  rw [← hm0]
  have HM := hide hm0
  clear hm0
  go_enter Tryz.func68, Tryz.ntmps68
  go_wp2_with fail
  refine (HT.out _ (by (repeat' (first | (with_reducible exact Below.refl _ _) | (with_reducible assumption) | (with_reducible refine Below.setCell ?_ ?_ _) | (with_reducible refine Below.alloc ?_ ?_ _) | (with_reducible refine Below.drew ?_) | (with_reducible refine below_drewN ?_ _) | (with_reducible refine Below.trans ?_ (Below.mono (by assumption) ?_)) | (simp <;> omega) | omega)))).mono ?_
  rintro e w1 ⟨A1, c1', rfl, hown, hb1⟩
  have hbw1 : Below w.heap.size w w1 := (Below.alloc (Below.refl _ _) (Nat.le_refl _) _).trans (hb1.mono (by simp))
  have hRD := hide (Rd.of_own hown)
  have hz1 := hbw1.size
  clear hown hb1 HT
  go_wp2_with fail
  go_loopw [1, 12] (fun v i wr => ∃ (j m : Nat), j ≤ n ∧ v = .float .f64 m ∧ i = .int .i64 j ∧ Hid (Foundmax (ns.take j) m) ∧ Below w1.heap.size w1 wr) (fun _ i _ => n - (intOf i).toNat)
  case atStart => exact ⟨0, m0, by omega, rfl, rfl, hide (.inl ⟨by simp, HM.out⟩), Below.refl _ _⟩
  case round =>
    obtain ⟨j, m, hj, rfl, rfl, hF, hb⟩ := hrel
    have hzr := hb.size
    by_cases hlt : j < n
    · obtain ⟨g, y, rfl, hg, hy, hcs⟩ : ∃ g y, A1 = some ⟨g, 0, none⟩ ∧ g < w1.heap.size ∧ ns[j]? = some y ∧ ∀ t u, (fNum y)[t]? = some u → wr.cell? ⟨g, j * 10 + t, none⟩ = some u := by
        obtain ⟨g, e, hg, hc⟩ := hRD.out.2 (by omega)
        obtain ⟨y, hy⟩ : ∃ y, ns[j]? = some y := ⟨_, List.getElem?_eq_getElem (by rw [HN.out]; exact hlt)⟩
        refine ⟨g, y, e, hg, hy, fun t u hu => (hb.cell (p := ⟨g, j * 10 + t, none⟩) hg).trans (hc _ u ?_)⟩
        rw [flatMap_at fNum 10 fNum_len ns j y hy t (by have := (List.getElem?_eq_some_iff.1 hu).1; simpa [fNum] using this)]
        exact hu
      have d0 : wr.cell? ⟨g, j * 10, none⟩ = some (.string ⟨#[]⟩) := hcs 0 _ rfl
      have d1 : wr.cell? ⟨g, j * 10 + 1, none⟩ = some (.float .f64 (word y)) := hcs 1 _ rfl
      have d2 : wr.cell? ⟨g, j * 10 + 2, none⟩ = some (.string ⟨#[]⟩) := hcs 2 _ rfl
      have d3 : wr.cell? ⟨g, j * 10 + 3, none⟩ = some (.slice none 0 0) := hcs 3 _ rfl
      have d4 : wr.cell? ⟨g, j * 10 + 4, none⟩ = some (.slice none 0 0) := hcs 4 _ rfl
      have d5 : wr.cell? ⟨g, j * 10 + 5, none⟩ = some (.bool false) := hcs 5 _ rfl
      have d6 : wr.cell? ⟨g, j * 10 + 6, none⟩ = some (.string ⟨#[]⟩) := hcs 6 _ rfl
      have d7 : wr.cell? ⟨g, j * 10 + 7, none⟩ = some (.int .u8 1) := hcs 7 _ rfl
      have d8 : wr.cell? ⟨g, j * 10 + 8, none⟩ = some (.pointer none) := hcs 8 _ rfl
      have d9 : wr.cell? ⟨g, j * 10 + 9, none⟩ = some (.pointer none) := hcs 9 _ rfl
      have hys := hide (HS.out y (List.mem_of_getElem? hy))
      have htake := hide (show ns.take (j + 1) = ns.take j ++ [y] from by rw [List.take_add_one, hy]; rfl)
      clear hy hcs
      have hlti : (j : Int) < n := by omega
      cases hc : (FloatKind.f64.format.order (word y) m == some .gt)
      · have hF' := hide (foundmax_no (fun x hx => HS.out x (List.mem_of_mem_take hx)) hys.out hF.out hc)
        go_wp2_with fail
        go_roundw
        case rel => exact ⟨j + 1, m, by omega, rfl, by go_num, hide (by rw [htake.out]; exact hF'.out), by (repeat' (first | (with_reducible exact Below.refl _ _) | (with_reducible assumption) | (with_reducible refine Below.setCell ?_ ?_ _) | (with_reducible refine Below.alloc ?_ ?_ _) | (with_reducible refine Below.drew ?_) | (with_reducible refine below_drewN ?_ _) | (with_reducible refine Below.trans ?_ (Below.mono (by assumption) ?_)) | (simp <;> omega) | omega))⟩
        case measure => simp [intOf]; omega
      · have hF' := hide (foundmax_yes (fun x hx => HS.out x (List.mem_of_mem_take hx)) hys.out hF.out hc)
        go_wp2_with fail
        go_roundw
        case rel => exact ⟨j + 1, word y, by omega, rfl, by go_num, hide (by rw [htake.out]; exact hF'.out), by (repeat' (first | (with_reducible exact Below.refl _ _) | (with_reducible assumption) | (with_reducible refine Below.setCell ?_ ?_ _) | (with_reducible refine Below.alloc ?_ ?_ _) | (with_reducible refine Below.drew ?_) | (with_reducible refine below_drewN ?_ _) | (with_reducible refine Below.trans ?_ (Below.mono (by assumption) ?_)) | (simp <;> omega) | omega))⟩
        case measure => simp [intOf]; omega
    · obtain rfl : j = n := by omega
      have hlti : ¬ (j : Int) < j := by omega
      go_wp2_with fail
      go_ret
      refine ⟨m, rfl, ?_, hbw1.trans (hb.mono hz1)⟩
      have h := hF.out
      rwa [← HN.out, List.take_length] at h
/-- The answer as a formula argument. -/
def Retmax (ns : List Int) (w : World) (e : Ending) (w' : World) : Prop := ∃ M, Great M ns ∧ M.natAbs ≤ 9999 ∧ e = .returned (.agg (fNum M).toArray) ∧ Below w.heap.size w w'
set_option maxRecDepth 100000 in
set_option maxHeartbeats 4000000 in
theorem valuemax (ns : List Int) (hok : OkAr (.col ns)) (q : Nat → Nat) (vs : List Value) (p : Value) (w : World) (hch : Chain w 1 q vs) (hargs : Args w (In 0 w.heap.size) [.col ns] vs) :
    Calls Tryz.prog 49 #[p, .bool false, .pointer (some ⟨q 0, 0, none⟩)] w (Retmax ns w) := by
  obtain ⟨cs0, hv0, A, c, L1, L2, rfl, hgrid, hL1, hL2, cL1, cL2⟩ := hargs 0 _ rfl
  obtain ⟨n, hn⟩ : ∃ n, ns.length = n := ⟨_, rfl⟩
  have m1 := hch.elem (by omega) hv0
  rw [hn] at m1
  have z0 := (hch.1 0 (by omega)).1
  have z1 := (hch.1 1 (by omega)).1
  have m0 : w.cell? ⟨q 0, 0, none⟩ = some (.pointer (some ⟨q 1, 0, none⟩)) := by have := (hch.1 0 (by omega)).2.2.2; rw [if_pos (by omega)] at this; exact this
  have p4 : w.cell? ⟨q 0, 4, none⟩ = some (.int .i64 1) := hch.2.2.1
  have HCH := hide hch
  have z1' : q 1 < w.heap.size + 1 := by omega
  have HP := hide (fun (W : World) (h : Below w.heap.size w W) => And.intro ((h.cell (p := ⟨q 0, 4, none⟩) z0).trans p4) ((h.cell (p := ⟨q 0, 0, none⟩) z0).trans m0))
  have HC := hide (fun (W : World) (h : Below w.heap.size w W) => calcmax ns hok A n c L1 L2 0 w.heap.size hn W h.size (RdL.keep (rowOk_keeps _) hgrid (fun g hg => ⟨hg, h.block g hg.2⟩)))
  have HS := hide hok
  clear hch hargs hv0 hn hgrid cL1 cL2 hL1 hL2 hok m0 p4
  go_enter Tryz.func49, Tryz.ntmps49
  go_wp2_with fail
  refine (front_any (q 0) (q 1) 1 (by omega) _ (HP.out _ (by (repeat' (first | (with_reducible exact Below.refl _ _) | (with_reducible assumption) | (with_reducible refine Below.setCell ?_ ?_ _) | (with_reducible refine Below.alloc ?_ ?_ _) | (with_reducible refine Below.drew ?_) | (with_reducible refine below_drewN ?_ _) | (with_reducible refine Below.trans ?_ (Below.mono (by assumption) ?_)) | (simp <;> omega) | omega)))).1 (HP.out _ (by (repeat' (first | (with_reducible exact Below.refl _ _) | (with_reducible assumption) | (with_reducible refine Below.setCell ?_ ?_ _) | (with_reducible refine Below.alloc ?_ ?_ _) | (with_reducible refine Below.drew ?_) | (with_reducible refine below_drewN ?_ _) | (with_reducible refine Below.trans ?_ (Below.mono (by assumption) ?_)) | (simp <;> omega) | omega)))).2).mono ?_
  rintro e w0 ⟨rfl, rfl⟩
  go_wp2_with fail
  refine wp_loop_rounds 2 ?_
  rw [rounds_succ]
  go_wp2_with fail
  refine (HC.out _ (by (repeat' (first | (with_reducible exact Below.refl _ _) | (with_reducible assumption) | (with_reducible refine Below.setCell ?_ ?_ _) | (with_reducible refine Below.alloc ?_ ?_ _) | (with_reducible refine Below.drew ?_) | (with_reducible refine below_drewN ?_ _) | (with_reducible refine Below.trans ?_ (Below.mono (by assumption) ?_)) | (simp <;> omega) | omega)))).mono ?_
  rintro e w1 ⟨m, rfl, hF, hb1⟩
  have hbw1 : Below w.heap.size w w1 := (Below.alloc (Below.alloc (Below.refl _ _) (Nat.le_refl _) _) (by simp) _).trans (hb1.mono (by simp; omega))
  have HR1 := hide (show Blk w1 w.heap.size 55 #[.string ⟨#[]⟩, .float .f64 0, .string ⟨#[]⟩, .slice none 0 0, .slice none 0 0, .bool false, .string ⟨#[]⟩, .int .u8 0, .pointer none, .pointer none] from ((Blk.new w _ _).alloc _).below hb1 (by simp; omega))
  obtain ⟨M, rfl, hE, hM, hq⟩ := foundmax_far HS.out.2.2 (fun h => by have := HS.out.1; rw [h] at this; simp at this) hF
  have HE := hide hE
  have hnx := hide (next_chain_last q 1 vs w1 (HCH.out.below hbw1) 0 (by omega))
  clear hb1 hF hE HC m1
  go_wp2_with fail
  refine hnx.out.mono ?_
  rintro e w2 ⟨rfl, rfl⟩
  go_wp2_with fail
  rw [rounds_succ]
  go_wp2_with fail
  refine (newNum_word M (by omega) _).mono ?_
  rintro e w2 ⟨rfl, hb2⟩
  have HR2 := HR1.out.below hb2 HR1.out.lt
  have hz1 := HR1.out.lt
  have hz2 := hb2.size
  have q0 : w2.cell? ⟨w.heap.size, 0, none⟩ = some (.string ⟨#[]⟩) := HR2.cell 0
  have q1 : w2.cell? ⟨w.heap.size, 1, none⟩ = some (.float .f64 0) := HR2.cell 1
  have q2 : w2.cell? ⟨w.heap.size, 2, none⟩ = some (.string ⟨#[]⟩) := HR2.cell 2
  have q3 : w2.cell? ⟨w.heap.size, 3, none⟩ = some (.slice none 0 0) := HR2.cell 3
  have q4 : w2.cell? ⟨w.heap.size, 4, none⟩ = some (.slice none 0 0) := HR2.cell 4
  have q5 : w2.cell? ⟨w.heap.size, 5, none⟩ = some (.bool false) := HR2.cell 5
  have q6 : w2.cell? ⟨w.heap.size, 6, none⟩ = some (.string ⟨#[]⟩) := HR2.cell 6
  have q7 : w2.cell? ⟨w.heap.size, 7, none⟩ = some (.int .u8 0) := HR2.cell 7
  have q8 : w2.cell? ⟨w.heap.size, 8, none⟩ = some (.pointer none) := HR2.cell 8
  have q9 : w2.cell? ⟨w.heap.size, 9, none⟩ = some (.pointer none) := HR2.cell 9
  have fq : ∀ o, w2.frozen? ⟨w.heap.size, o, none⟩ = false := HR2.frozen
  have hbw2 : Below w.heap.size w w2 := hbw1.trans (hb2.mono (by omega))
  clear hb2 HR2
  go_wp2_with fail
  refine bodyPost_ret (v := .agg (fNum M).toArray) ?_ rfl ⟨M, HE.out, hM, rfl, ?_⟩
  · simp [results, Tryz.results49, go_sem, fNum, q0, q1, q2, q3, q4, q5, q6, q7, q8, q9]
  · (repeat' (first | (with_reducible exact Below.refl _ _) | (with_reducible assumption) | (with_reducible refine Below.setCell ?_ ?_ _) | (with_reducible refine Below.alloc ?_ ?_ _) | (with_reducible refine Below.drew ?_) | (with_reducible refine below_drewN ?_ _) | (with_reducible refine Below.trans ?_ (Below.mono (by assumption) ?_)) | (simp <;> omega) | omega))
set_option maxRecDepth 100000 in
set_option maxHeartbeats 2000000 in
theorem MAX_any (ns : List Int) (hok : OkAr (.col ns)) (q : Nat → Nat) (vs : List Value) (p : Value) (w : World) (hch : Chain w 1 q vs) (hargs : Args w (In 0 w.heap.size) [.col ns] vs) :
    Calls Tryz.prog 31 #[p, .pointer (some ⟨q 0, 0, none⟩)] w (Retmax ns w) := by
  have z0 := (hch.1 0 (by omega)).1
  have p4 : w.cell? ⟨q 0, 4, none⟩ = some (.int .i64 1) := hch.2.2.1
  have HV := hide (fun (W : World) (h : Below w.heap.size w W) => valuemax ns hok q vs p W (hch.below h) (hargs.keep fun g hg => ⟨⟨Nat.zero_le _, Nat.lt_of_lt_of_le hg.2 h.size⟩, h.block g hg.2⟩))
  clear hch hargs hok
  go_enter Tryz.func31, Tryz.ntmps31
  go_wp2_with fail
  refine (len_any (q 0) 1 _ ((World.cell?_alloc_lt w _ _ z0).trans p4)).mono ?_
  rintro e w0 ⟨rfl, rfl⟩
  go_wp2_with fail
  refine (HV.out _ (by (repeat' (first | (with_reducible exact Below.refl _ _) | (with_reducible assumption) | (with_reducible refine Below.setCell ?_ ?_ _) | (with_reducible refine Below.alloc ?_ ?_ _) | (with_reducible refine Below.drew ?_) | (with_reducible refine below_drewN ?_ _) | (with_reducible refine Below.trans ?_ (Below.mono (by assumption) ?_)) | (simp <;> omega) | omega)))).mono ?_
  rintro e w1 ⟨M, hE, hM, rfl, hb1⟩
  have HE := hide hE
  have HR2 := (Blk.new w 55 #[.string ⟨#[]⟩, .float .f64 0, .string ⟨#[]⟩, .slice none 0 0, .slice none 0 0, .bool false, .string ⟨#[]⟩, .int .u8 0, .pointer none, .pointer none]).below hb1 (by simp)
  have hz2 : w.heap.size < w1.heap.size := HR2.lt
  have q0 : w1.cell? ⟨w.heap.size, 0, none⟩ = some (.string ⟨#[]⟩) := HR2.cell 0
  have q1 : w1.cell? ⟨w.heap.size, 1, none⟩ = some (.float .f64 0) := HR2.cell 1
  have q2 : w1.cell? ⟨w.heap.size, 2, none⟩ = some (.string ⟨#[]⟩) := HR2.cell 2
  have q3 : w1.cell? ⟨w.heap.size, 3, none⟩ = some (.slice none 0 0) := HR2.cell 3
  have q4 : w1.cell? ⟨w.heap.size, 4, none⟩ = some (.slice none 0 0) := HR2.cell 4
  have q5 : w1.cell? ⟨w.heap.size, 5, none⟩ = some (.bool false) := HR2.cell 5
  have q6 : w1.cell? ⟨w.heap.size, 6, none⟩ = some (.string ⟨#[]⟩) := HR2.cell 6
  have q7 : w1.cell? ⟨w.heap.size, 7, none⟩ = some (.int .u8 0) := HR2.cell 7
  have q8 : w1.cell? ⟨w.heap.size, 8, none⟩ = some (.pointer none) := HR2.cell 8
  have q9 : w1.cell? ⟨w.heap.size, 9, none⟩ = some (.pointer none) := HR2.cell 9
  have fq : ∀ o, w1.frozen? ⟨w.heap.size, o, none⟩ = false := HR2.frozen
  clear HR2 hE
  simp only [fNum]
  go_wp2_with fail
  refine bodyPost_ret (v := .agg (fNum M).toArray) ?_ rfl ⟨M, HE.out, hM, rfl, ?_⟩
  · simp [results, Tryz.results31, go_sem, fNum, q0, q1, q2, q3, q4, q5, q6, q7, q8, q9]
  · (repeat' (first | (with_reducible exact Below.refl _ _) | (with_reducible assumption) | (with_reducible refine Below.setCell ?_ ?_ _) | (with_reducible refine Below.alloc ?_ ?_ _) | (with_reducible refine Below.drew ?_) | (with_reducible refine below_drewN ?_ _) | (with_reducible refine Below.trans ?_ (Below.mono (by assumption) ?_)) | (simp <;> omega) | omega))
/-- What has been found after some numbers. -/
def Foundmin (l : List Int) (m : Nat) : Prop := (l = [] ∧ m = 9218868437227405311) ∨ ∃ M, m = word M ∧ Least M l
theorem foundmin_yes {l : List Int} {m : Nat} {y : Int} (hl : ∀ x ∈ l, x.natAbs ≤ 9999) (hy : y.natAbs ≤ 9999) (h : Foundmin l m) (hc : (FloatKind.f64.format.order (word y) m == some .lt) = true) : Foundmin (l ++ [y]) (word y) := by
  refine .inr ⟨y, rfl, by simp, fun x hx => ?_⟩
  rcases List.mem_append.1 hx with h1 | h1
  · rcases h with ⟨rfl, _⟩ | ⟨M, rfl, hM, hle⟩
    · simp at h1
    · rw [word_order y M hy (hl M hM)] at hc
      have h2 : compare y M = .lt := by simpa using hc
      have h3 := Int.compare_eq_lt.1 h2
      have h4 := hle x h1
      omega
  · rw [List.mem_singleton.1 h1]; exact Int.le_refl _
theorem foundmin_no {l : List Int} {m : Nat} {y : Int} (hl : ∀ x ∈ l, x.natAbs ≤ 9999) (hy : y.natAbs ≤ 9999) (h : Foundmin l m) (hc : (FloatKind.f64.format.order (word y) m == some .lt) = false) : Foundmin (l ++ [y]) m := by
  rcases h with ⟨rfl, rfl⟩ | ⟨M, rfl, hM, hle⟩
  · exfalso
    have h1 : FloatKind.f64.format.order (word y) 9218868437227405311 = some (compare y edge) := order_is (word_is y (by omega)) is_high
    rw [h1, Int.compare_eq_lt.2 (edge_big y hy).2] at hc
    simp at hc
  · refine .inr ⟨M, rfl, by simp [hM], fun x hx => ?_⟩
    rcases List.mem_append.1 hx with h1 | h1
    · exact hle x h1
    · rw [List.mem_singleton.1 h1]
      rw [word_order y M hy (hl M hM)] at hc
      have h2 : compare y M ≠ .lt := by simpa using hc
      have h3 : ¬ (y < M) := fun h => h2 (Int.compare_eq_lt.2 h)
      omega
theorem foundmin_far {l : List Int} {m : Nat} (hl : ∀ x ∈ l, x.natAbs ≤ 9999) (hne : l ≠ []) (h : Foundmin l m) : ∃ M, m = word M ∧ Least M l ∧ M.natAbs ≤ 9999 ∧ (FloatKind.f64.format.order m 9218868437227405311 == some .eq) = false := by
  rcases h with ⟨h, _⟩ | ⟨M, rfl, hM, hle⟩
  · exact absurd h hne
  · refine ⟨M, rfl, ⟨hM, hle⟩, hl M hM, ?_⟩
    have h1 : FloatKind.f64.format.order (word M) 9218868437227405311 = some (compare M edge) := order_is (word_is M (by have := hl M hM; omega)) is_high
    rw [h1, Int.compare_eq_lt.2 (edge_big M (hl M hM)).2]
    rfl
def RetWmin (ns : List Int) (w : World) (e : Ending) (w' : World) : Prop := ∃ m, e = .returned (.float .f64 m) ∧ Foundmin ns m ∧ Below w.heap.size w w'
set_option maxRecDepth 100000 in
set_option maxHeartbeats 4000000 in
theorem calcmin (ns : List Int) (hok : OkAr (.col ns)) (A : Option Addr) (n c L1 L2 lo hi : Nat) (hn : ns.length = n) (w : World) (hhi : hi ≤ w.heap.size) (hg : Grid w (In lo hi) fNum A ns) :
    Calls Tryz.prog 69 #[.bool false, .float .f64 9218868437227405311, .agg #[.string ⟨#[]⟩, .float .f64 0, .string ⟨#[]⟩, .slice none 0 0, .slice A n c, .bool false, .string ⟨#[]⟩, .int .u8 4, .pointer (some ⟨L1, 0, none⟩), .pointer (some ⟨L2, 0, none⟩)]] w (RetWmin ns w) := by
  have HS := hide hok.2.2
  have HN := hide hn
  have hn40 : n ≤ 40 := by have := hok.2.1; omega
  have HT := hide (fun (w1 : World) (hb : Below w.heap.size w w1) => toList_col ns A n c L1 L2 lo hi hn hn40 w1 (by have := hb.size; omega) (RdL.keep (rowOk_keeps _) hg (fun g h => ⟨h, hb.block g (by have := h.2; omega)⟩)))
  clear hok hn hg
  obtain ⟨m0, hm0⟩ : ∃ m0 : Nat, m0 = 9218868437227405311 := ⟨_, rfl⟩
  rw [← hm0]
  have HM := hide hm0
  clear hm0
  go_enter Tryz.func69, Tryz.ntmps69
  go_wp2_with fail
  refine (HT.out _ (by (repeat' (first | (with_reducible exact Below.refl _ _) | (with_reducible assumption) | (with_reducible refine Below.setCell ?_ ?_ _) | (with_reducible refine Below.alloc ?_ ?_ _) | (with_reducible refine Below.drew ?_) | (with_reducible refine below_drewN ?_ _) | (with_reducible refine Below.trans ?_ (Below.mono (by assumption) ?_)) | (simp <;> omega) | omega)))).mono ?_
  rintro e w1 ⟨A1, c1', rfl, hown, hb1⟩
  have hbw1 : Below w.heap.size w w1 := (Below.alloc (Below.refl _ _) (Nat.le_refl _) _).trans (hb1.mono (by simp))
  have hRD := hide (Rd.of_own hown)
  have hz1 := hbw1.size
  clear hown hb1 HT
  go_wp2_with fail
  go_loopw [1, 12] (fun v i wr => ∃ (j m : Nat), j ≤ n ∧ v = .float .f64 m ∧ i = .int .i64 j ∧ Hid (Foundmin (ns.take j) m) ∧ Below w1.heap.size w1 wr) (fun _ i _ => n - (intOf i).toNat)
  case atStart => exact ⟨0, m0, by omega, rfl, rfl, hide (.inl ⟨by simp, HM.out⟩), Below.refl _ _⟩
  case round =>
    obtain ⟨j, m, hj, rfl, rfl, hF, hb⟩ := hrel
    have hzr := hb.size
    by_cases hlt : j < n
    · obtain ⟨g, y, rfl, hg, hy, hcs⟩ : ∃ g y, A1 = some ⟨g, 0, none⟩ ∧ g < w1.heap.size ∧ ns[j]? = some y ∧ ∀ t u, (fNum y)[t]? = some u → wr.cell? ⟨g, j * 10 + t, none⟩ = some u := by
        obtain ⟨g, e, hg, hc⟩ := hRD.out.2 (by omega)
        obtain ⟨y, hy⟩ : ∃ y, ns[j]? = some y := ⟨_, List.getElem?_eq_getElem (by rw [HN.out]; exact hlt)⟩
        refine ⟨g, y, e, hg, hy, fun t u hu => (hb.cell (p := ⟨g, j * 10 + t, none⟩) hg).trans (hc _ u ?_)⟩
        rw [flatMap_at fNum 10 fNum_len ns j y hy t (by have := (List.getElem?_eq_some_iff.1 hu).1; simpa [fNum] using this)]
        exact hu
      have d0 : wr.cell? ⟨g, j * 10, none⟩ = some (.string ⟨#[]⟩) := hcs 0 _ rfl
      have d1 : wr.cell? ⟨g, j * 10 + 1, none⟩ = some (.float .f64 (word y)) := hcs 1 _ rfl
      have d2 : wr.cell? ⟨g, j * 10 + 2, none⟩ = some (.string ⟨#[]⟩) := hcs 2 _ rfl
      have d3 : wr.cell? ⟨g, j * 10 + 3, none⟩ = some (.slice none 0 0) := hcs 3 _ rfl
      have d4 : wr.cell? ⟨g, j * 10 + 4, none⟩ = some (.slice none 0 0) := hcs 4 _ rfl
      have d5 : wr.cell? ⟨g, j * 10 + 5, none⟩ = some (.bool false) := hcs 5 _ rfl
      have d6 : wr.cell? ⟨g, j * 10 + 6, none⟩ = some (.string ⟨#[]⟩) := hcs 6 _ rfl
      have d7 : wr.cell? ⟨g, j * 10 + 7, none⟩ = some (.int .u8 1) := hcs 7 _ rfl
      have d8 : wr.cell? ⟨g, j * 10 + 8, none⟩ = some (.pointer none) := hcs 8 _ rfl
      have d9 : wr.cell? ⟨g, j * 10 + 9, none⟩ = some (.pointer none) := hcs 9 _ rfl
      have hys := hide (HS.out y (List.mem_of_getElem? hy))
      have htake := hide (show ns.take (j + 1) = ns.take j ++ [y] from by rw [List.take_add_one, hy]; rfl)
      clear hy hcs
      have hlti : (j : Int) < n := by omega
      cases hc : (FloatKind.f64.format.order (word y) m == some .lt)
      · have hF' := hide (foundmin_no (fun x hx => HS.out x (List.mem_of_mem_take hx)) hys.out hF.out hc)
        go_wp2_with fail
        go_roundw
        case rel => exact ⟨j + 1, m, by omega, rfl, by go_num, hide (by rw [htake.out]; exact hF'.out), by (repeat' (first | (with_reducible exact Below.refl _ _) | (with_reducible assumption) | (with_reducible refine Below.setCell ?_ ?_ _) | (with_reducible refine Below.alloc ?_ ?_ _) | (with_reducible refine Below.drew ?_) | (with_reducible refine below_drewN ?_ _) | (with_reducible refine Below.trans ?_ (Below.mono (by assumption) ?_)) | (simp <;> omega) | omega))⟩
        case measure => simp [intOf]; omega
      · have hF' := hide (foundmin_yes (fun x hx => HS.out x (List.mem_of_mem_take hx)) hys.out hF.out hc)
        go_wp2_with fail
        go_roundw
        case rel => exact ⟨j + 1, word y, by omega, rfl, by go_num, hide (by rw [htake.out]; exact hF'.out), by (repeat' (first | (with_reducible exact Below.refl _ _) | (with_reducible assumption) | (with_reducible refine Below.setCell ?_ ?_ _) | (with_reducible refine Below.alloc ?_ ?_ _) | (with_reducible refine Below.drew ?_) | (with_reducible refine below_drewN ?_ _) | (with_reducible refine Below.trans ?_ (Below.mono (by assumption) ?_)) | (simp <;> omega) | omega))⟩
        case measure => simp [intOf]; omega
    · obtain rfl : j = n := by omega
      have hlti : ¬ (j : Int) < j := by omega
      go_wp2_with fail
      go_ret
      refine ⟨m, rfl, ?_, hbw1.trans (hb.mono hz1)⟩
      have h := hF.out
      rwa [← HN.out, List.take_length] at h
/-- The answer as a formula argument. -/
def Retmin (ns : List Int) (w : World) (e : Ending) (w' : World) : Prop := ∃ M, Least M ns ∧ M.natAbs ≤ 9999 ∧ e = .returned (.agg (fNum M).toArray) ∧ Below w.heap.size w w'
set_option maxRecDepth 100000 in
set_option maxHeartbeats 4000000 in
theorem valuemin (ns : List Int) (hok : OkAr (.col ns)) (q : Nat → Nat) (vs : List Value) (p : Value) (w : World) (hch : Chain w 1 q vs) (hargs : Args w (In 0 w.heap.size) [.col ns] vs) :
    Calls Tryz.prog 50 #[p, .bool false, .pointer (some ⟨q 0, 0, none⟩)] w (Retmin ns w) := by
  obtain ⟨cs0, hv0, A, c, L1, L2, rfl, hgrid, hL1, hL2, cL1, cL2⟩ := hargs 0 _ rfl
  obtain ⟨n, hn⟩ : ∃ n, ns.length = n := ⟨_, rfl⟩
  have m1 := hch.elem (by omega) hv0
  rw [hn] at m1
  have z0 := (hch.1 0 (by omega)).1
  have z1 := (hch.1 1 (by omega)).1
  have m0 : w.cell? ⟨q 0, 0, none⟩ = some (.pointer (some ⟨q 1, 0, none⟩)) := by have := (hch.1 0 (by omega)).2.2.2; rw [if_pos (by omega)] at this; exact this
  have p4 : w.cell? ⟨q 0, 4, none⟩ = some (.int .i64 1) := hch.2.2.1
  have HCH := hide hch
  have z1' : q 1 < w.heap.size + 1 := by omega
  have HP := hide (fun (W : World) (h : Below w.heap.size w W) => And.intro ((h.cell (p := ⟨q 0, 4, none⟩) z0).trans p4) ((h.cell (p := ⟨q 0, 0, none⟩) z0).trans m0))
  have HC := hide (fun (W : World) (h : Below w.heap.size w W) => calcmin ns hok A n c L1 L2 0 w.heap.size hn W h.size (RdL.keep (rowOk_keeps _) hgrid (fun g hg => ⟨hg, h.block g hg.2⟩)))
  have HS := hide hok
  clear hch hargs hv0 hn hgrid cL1 cL2 hL1 hL2 hok m0 p4
  go_enter Tryz.func50, Tryz.ntmps50
  go_wp2_with fail
  refine (front_any (q 0) (q 1) 1 (by omega) _ (HP.out _ (by (repeat' (first | (with_reducible exact Below.refl _ _) | (with_reducible assumption) | (with_reducible refine Below.setCell ?_ ?_ _) | (with_reducible refine Below.alloc ?_ ?_ _) | (with_reducible refine Below.drew ?_) | (with_reducible refine below_drewN ?_ _) | (with_reducible refine Below.trans ?_ (Below.mono (by assumption) ?_)) | (simp <;> omega) | omega)))).1 (HP.out _ (by (repeat' (first | (with_reducible exact Below.refl _ _) | (with_reducible assumption) | (with_reducible refine Below.setCell ?_ ?_ _) | (with_reducible refine Below.alloc ?_ ?_ _) | (with_reducible refine Below.drew ?_) | (with_reducible refine below_drewN ?_ _) | (with_reducible refine Below.trans ?_ (Below.mono (by assumption) ?_)) | (simp <;> omega) | omega)))).2).mono ?_
  rintro e w0 ⟨rfl, rfl⟩
  go_wp2_with fail
  refine wp_loop_rounds 2 ?_
  rw [rounds_succ]
  go_wp2_with fail
  refine (HC.out _ (by (repeat' (first | (with_reducible exact Below.refl _ _) | (with_reducible assumption) | (with_reducible refine Below.setCell ?_ ?_ _) | (with_reducible refine Below.alloc ?_ ?_ _) | (with_reducible refine Below.drew ?_) | (with_reducible refine below_drewN ?_ _) | (with_reducible refine Below.trans ?_ (Below.mono (by assumption) ?_)) | (simp <;> omega) | omega)))).mono ?_
  rintro e w1 ⟨m, rfl, hF, hb1⟩
  have hbw1 : Below w.heap.size w w1 := (Below.alloc (Below.alloc (Below.refl _ _) (Nat.le_refl _) _) (by simp) _).trans (hb1.mono (by simp; omega))
  have HR1 := hide (show Blk w1 w.heap.size 55 #[.string ⟨#[]⟩, .float .f64 0, .string ⟨#[]⟩, .slice none 0 0, .slice none 0 0, .bool false, .string ⟨#[]⟩, .int .u8 0, .pointer none, .pointer none] from ((Blk.new w _ _).alloc _).below hb1 (by simp; omega))
  obtain ⟨M, rfl, hE, hM, hq⟩ := foundmin_far HS.out.2.2 (fun h => by have := HS.out.1; rw [h] at this; simp at this) hF
  have HE := hide hE
  have hnx := hide (next_chain_last q 1 vs w1 (HCH.out.below hbw1) 0 (by omega))
  clear hb1 hF hE HC m1
  go_wp2_with fail
  refine hnx.out.mono ?_
  rintro e w2 ⟨rfl, rfl⟩
  go_wp2_with fail
  rw [rounds_succ]
  go_wp2_with fail
  refine (newNum_word M (by omega) _).mono ?_
  rintro e w2 ⟨rfl, hb2⟩
  have HR2 := HR1.out.below hb2 HR1.out.lt
  have hz1 := HR1.out.lt
  have hz2 := hb2.size
  have q0 : w2.cell? ⟨w.heap.size, 0, none⟩ = some (.string ⟨#[]⟩) := HR2.cell 0
  have q1 : w2.cell? ⟨w.heap.size, 1, none⟩ = some (.float .f64 0) := HR2.cell 1
  have q2 : w2.cell? ⟨w.heap.size, 2, none⟩ = some (.string ⟨#[]⟩) := HR2.cell 2
  have q3 : w2.cell? ⟨w.heap.size, 3, none⟩ = some (.slice none 0 0) := HR2.cell 3
  have q4 : w2.cell? ⟨w.heap.size, 4, none⟩ = some (.slice none 0 0) := HR2.cell 4
  have q5 : w2.cell? ⟨w.heap.size, 5, none⟩ = some (.bool false) := HR2.cell 5
  have q6 : w2.cell? ⟨w.heap.size, 6, none⟩ = some (.string ⟨#[]⟩) := HR2.cell 6
  have q7 : w2.cell? ⟨w.heap.size, 7, none⟩ = some (.int .u8 0) := HR2.cell 7
  have q8 : w2.cell? ⟨w.heap.size, 8, none⟩ = some (.pointer none) := HR2.cell 8
  have q9 : w2.cell? ⟨w.heap.size, 9, none⟩ = some (.pointer none) := HR2.cell 9
  have fq : ∀ o, w2.frozen? ⟨w.heap.size, o, none⟩ = false := HR2.frozen
  have hbw2 : Below w.heap.size w w2 := hbw1.trans (hb2.mono (by omega))
  clear hb2 HR2
  go_wp2_with fail
  refine bodyPost_ret (v := .agg (fNum M).toArray) ?_ rfl ⟨M, HE.out, hM, rfl, ?_⟩
  · simp [results, Tryz.results50, go_sem, fNum, q0, q1, q2, q3, q4, q5, q6, q7, q8, q9]
  · (repeat' (first | (with_reducible exact Below.refl _ _) | (with_reducible assumption) | (with_reducible refine Below.setCell ?_ ?_ _) | (with_reducible refine Below.alloc ?_ ?_ _) | (with_reducible refine Below.drew ?_) | (with_reducible refine below_drewN ?_ _) | (with_reducible refine Below.trans ?_ (Below.mono (by assumption) ?_)) | (simp <;> omega) | omega))
set_option maxRecDepth 100000 in
set_option maxHeartbeats 2000000 in
theorem MIN_any (ns : List Int) (hok : OkAr (.col ns)) (q : Nat → Nat) (vs : List Value) (p : Value) (w : World) (hch : Chain w 1 q vs) (hargs : Args w (In 0 w.heap.size) [.col ns] vs) :
    Calls Tryz.prog 32 #[p, .pointer (some ⟨q 0, 0, none⟩)] w (Retmin ns w) := by
  have z0 := (hch.1 0 (by omega)).1
  have p4 : w.cell? ⟨q 0, 4, none⟩ = some (.int .i64 1) := hch.2.2.1
  have HV := hide (fun (W : World) (h : Below w.heap.size w W) => valuemin ns hok q vs p W (hch.below h) (hargs.keep fun g hg => ⟨⟨Nat.zero_le _, Nat.lt_of_lt_of_le hg.2 h.size⟩, h.block g hg.2⟩))
  clear hch hargs hok
  go_enter Tryz.func32, Tryz.ntmps32
  go_wp2_with fail
  refine (len_any (q 0) 1 _ ((World.cell?_alloc_lt w _ _ z0).trans p4)).mono ?_
  rintro e w0 ⟨rfl, rfl⟩
  go_wp2_with fail
  refine (HV.out _ (by (repeat' (first | (with_reducible exact Below.refl _ _) | (with_reducible assumption) | (with_reducible refine Below.setCell ?_ ?_ _) | (with_reducible refine Below.alloc ?_ ?_ _) | (with_reducible refine Below.drew ?_) | (with_reducible refine below_drewN ?_ _) | (with_reducible refine Below.trans ?_ (Below.mono (by assumption) ?_)) | (simp <;> omega) | omega)))).mono ?_
  rintro e w1 ⟨M, hE, hM, rfl, hb1⟩
  have HE := hide hE
  have HR2 := (Blk.new w 55 #[.string ⟨#[]⟩, .float .f64 0, .string ⟨#[]⟩, .slice none 0 0, .slice none 0 0, .bool false, .string ⟨#[]⟩, .int .u8 0, .pointer none, .pointer none]).below hb1 (by simp)
  have hz2 : w.heap.size < w1.heap.size := HR2.lt
  have q0 : w1.cell? ⟨w.heap.size, 0, none⟩ = some (.string ⟨#[]⟩) := HR2.cell 0
  have q1 : w1.cell? ⟨w.heap.size, 1, none⟩ = some (.float .f64 0) := HR2.cell 1
  have q2 : w1.cell? ⟨w.heap.size, 2, none⟩ = some (.string ⟨#[]⟩) := HR2.cell 2
  have q3 : w1.cell? ⟨w.heap.size, 3, none⟩ = some (.slice none 0 0) := HR2.cell 3
  have q4 : w1.cell? ⟨w.heap.size, 4, none⟩ = some (.slice none 0 0) := HR2.cell 4
  have q5 : w1.cell? ⟨w.heap.size, 5, none⟩ = some (.bool false) := HR2.cell 5
  have q6 : w1.cell? ⟨w.heap.size, 6, none⟩ = some (.string ⟨#[]⟩) := HR2.cell 6
  have q7 : w1.cell? ⟨w.heap.size, 7, none⟩ = some (.int .u8 0) := HR2.cell 7
  have q8 : w1.cell? ⟨w.heap.size, 8, none⟩ = some (.pointer none) := HR2.cell 8
  have q9 : w1.cell? ⟨w.heap.size, 9, none⟩ = some (.pointer none) := HR2.cell 9
  have fq : ∀ o, w1.frozen? ⟨w.heap.size, o, none⟩ = false := HR2.frozen
  clear HR2 hE
  simp only [fNum]
  go_wp2_with fail
  refine bodyPost_ret (v := .agg (fNum M).toArray) ?_ rfl ⟨M, HE.out, hM, rfl, ?_⟩
  · simp [results, Tryz.results32, go_sem, fNum, q0, q1, q2, q3, q4, q5, q6, q7, q8, q9]
  · (repeat' (first | (with_reducible exact Below.refl _ _) | (with_reducible assumption) | (with_reducible refine Below.setCell ?_ ?_ _) | (with_reducible refine Below.alloc ?_ ?_ _) | (with_reducible refine Below.drew ?_) | (with_reducible refine below_drewN ?_ _) | (with_reducible refine Below.trans ?_ (Below.mono (by assumption) ?_)) | (simp <;> omega) | omega))
end Go.Proofs.YtjcnnjknhemimaaGreatDoor
