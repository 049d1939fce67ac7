/- Contract of the doors' innerArg at a column. -/
import Derived.Test.YtjcnnjknhemimaaGreatDoorG5
import Derived.Test.YtjcnnjknhemimaaGreatDoorD2
import Derived.LoopN
import Derived.Deep.Cut
import Derived.Deep.CutRange
import Derived.Deep.CutBlock
import Derived.Deep.RegionLaw
namespace Go.Proofs.YtjcnnjknhemimaaGreatDoor
open Go Go.RowKit Ieee Fl
attribute [local go_sem] run_store_float
theorem numOf_dbl (n : Int) : numOf (dbl n) = word n := by rw [word_eq]; rfl
theorem okI_num (n : Int) (h : n.natAbs ≤ 9999) : OkI ⟨1, dbl n, ⟨#[]⟩⟩ := .inr (.inl ⟨rfl, by
  show FloatKind.f64.format.order (dbl n) (dbl n) = some .eq
  have h1 : FloatKind.f64.format.order (dbl n) (dbl n) = some (compare n n) := order_is (dbl_is n (by omega)) (dbl_is n (by omega))
  rw [h1]
  simp⟩)
/-- innerArg of a number. -/
theorem inner_num (n : Int) (h : n.natAbs ≤ 9999) (w : World) : Calls Tryz.prog 37 #[.agg #[.int .i64 1, .float .f64 (dbl n), .string ⟨#[]⟩, .slice none 0 0]] w fun e w' =>
    e = .returned (.agg #[.string ⟨#[]⟩, .float .f64 (word n), .string ⟨#[]⟩, .slice none 0 0, .slice none 0 0, .bool false, .string ⟨#[]⟩, .int .u8 1, .pointer none, .pointer none]) ∧ Below w.heap.size w w' := by
  refine (innerArg_any ⟨1, dbl n, ⟨#[]⟩⟩ (okI_num n h) w).mono ?_
  rintro e w' ⟨rfl, hb⟩
  refine ⟨?_, hb⟩
  simp [argOf, F.agg, numOf_dbl]
/-- PushBack onto a new list. -/
theorem push_new (w : World) (L : Nat) (hL : w.heap.size = L) (v : Value) (tv : TypeId) :
    Calls Tryz.prog 36 #[.pointer (some ⟨L, 0, none⟩), .iface tv v] (w.alloc (.cells #[.pointer (some ⟨L, 0, none⟩), .pointer (some ⟨L, 0, none⟩), .pointer none, .nilIface, .int .i64 0] 89)).drew fun e w' => (∃ u, e = .returned u) ∧ Below L w w' ∧ w'.cell? ⟨L, 4, none⟩ = some (.int .i64 1) ∧ L < w'.heap.size := by
  subst hL
  refine (push_any w.heap.size w.heap.size w.heap.size 0 v tv (by omega) _ (by simp) (by simp) (by simp) (by simp) (by simp) (by simp) (by simp) (by simp)).mono ?_
  rintro e w' ⟨hu, rfl⟩
  refine ⟨hu, by (repeat' (first | (with_reducible exact Below.refl _ _) | (with_reducible assumption) | (with_reducible refine Below.setCell ?_ ?_ _) | (with_reducible refine Below.alloc ?_ ?_ _) | (with_reducible refine Below.drew ?_) | (with_reducible refine below_drewN ?_ _) | (with_reducible refine Below.trans ?_ (Below.mono (by assumption) ?_)) | (simp <;> omega) | omega)), ?_, by simp; omega⟩
  rw [World.cell?_alloc_lt _ _ _ (by simp)]
  exact World.cell?_setCell_same _ _ _ (u := .int .i64 0) (by rw [World.cell?_setCell_other _ _ _ _ (by simp), World.cell?_setCell_other _ _ _ _ (by simp)]; simp)
theorem infoF : (Tryz.prog.info? 55).map (fun i => (i.zero, i.size, i.bytes)) = some (some (.agg #[.string ⟨#[]⟩, .float .f64 0, .string ⟨#[]⟩, .slice none 0 0, .slice none 0 0, .bool false, .string ⟨#[]⟩, .int .u8 0, .pointer none, .pointer none]), 10, 136) := by kernel_rfl
theorem infoRowF : (Tryz.prog.info? 50).map (fun i => (i.zero, i.size, i.bytes)) = some (some (.slice none 0 0), 1, 24) := by kernel_rfl
theorem matrix_any (A : Option Addr) (n c : Nat) (w : World) : Calls Tryz.prog 58 #[.slice A n c] w fun e w' => e = .returned (.agg #[.string ⟨#[]⟩, .float .f64 0, .string ⟨#[]⟩, .slice none 0 0, .slice A n c, .bool false, .string ⟨#[]⟩, .int .u8 4, .pointer none, .pointer none]) ∧ Below w.heap.size w w' := by
  go_enter Tryz.func58, Tryz.ntmps58
  go_wp2_with fail
  refine bodyPost_ret (v := .agg #[.string ⟨#[]⟩, .float .f64 0, .string ⟨#[]⟩, .slice none 0 0, .slice A n c, .bool false, .string ⟨#[]⟩, .int .u8 4, .pointer none, .pointer none]) ?_ rfl ⟨rfl, ?_⟩
  · simp [results, Tryz.results58, go_sem]
  · (repeat' (first | (with_reducible exact Below.refl _ _) | (with_reducible assumption) | (with_reducible refine Below.setCell ?_ ?_ _) | (with_reducible refine Below.alloc ?_ ?_ _) | (with_reducible refine Below.drew ?_) | (with_reducible refine below_drewN ?_ _) | (with_reducible refine Below.trans ?_ (Below.mono (by assumption) ?_)) | (simp <;> omega) | omega))
/-- A formula argument that is a column, as a call returns it. -/
def ColF (ns : List Int) (w : World) (e : Ending) (w' : World) : Prop := ∃ A c L1 L2, e = .returned (.agg #[.string ⟨#[]⟩, .float .f64 0, .string ⟨#[]⟩, .slice none 0 0, .slice A ns.length c, .bool false, .string ⟨#[]⟩, .int .u8 4, .pointer (some ⟨L1, 0, none⟩), .pointer (some ⟨L2, 0, none⟩)]) ∧
  okF w' (In w.heap.size w'.heap.size) (.col ns) [.string ⟨#[]⟩, .float .f64 0, .string ⟨#[]⟩, .slice none 0 0, .slice A ns.length c, .bool false, .string ⟨#[]⟩, .int .u8 4, .pointer (some ⟨L1, 0, none⟩), .pointer (some ⟨L2, 0, none⟩)] ∧ Below w.heap.size w w'
set_option maxRecDepth 100000 in
set_option maxHeartbeats 4000000 in
theorem inner_col (ns : List Int) (hok : OkAr (.col ns)) (A : Option Addr) (n c : Nat) (hn : ns.length = n) (lo : Nat) (w : World) (hr : Grid w (In lo w.heap.size) iNum A ns) :
    Calls Tryz.prog 37 #[.agg #[.int .i64 5, .float .f64 0, .string ⟨#[]⟩, .slice A n c]] w (ColF ns w) := by
  obtain ⟨i0, hi, hx0, hx1, hx2⟩ := info_parts infoRowF
  obtain ⟨j0, hj, hy0, hy1, hy2⟩ := info_parts infoF
  have HR := hide hr
  have HS := hide hok.2.2
  have HN := hide hn
  have hn1 : 1 ≤ n := by have := hok.1; omega
  have hn2 : n ≤ 120 := by have := hok.2.1; omega
  clear hr hok hn
  go_enter Tryz.func37, Tryz.ntmps37
  go_wp2_with fail
  go_loopw [3, 40] (fun v i wr => ∃ (k : Nat) (css : List (List Value)), k ≤ n ∧ i = .int .i64 k ∧ Hid (wr.ownsRow (w.heap.size + 2) 50 1 v k css.flatten) ∧ Hid (Built wr (Apt (w.heap.size + 2) wr.heap.size v.ownBlock) 1 (rowOk fNum) css (ns.take k)) ∧ Hid (Blk wr (w.heap.size + 1) 55 #[.string ⟨#[]⟩, .float .f64 0, .string ⟨#[]⟩, .slice none 0 0, .slice none 0 0, .bool false, .string ⟨#[]⟩, .int .u8 0, .pointer none, .pointer none]) ∧ Below w.heap.size w wr) (fun _ i _ => n - (intOf i).toNat)
  case atStart =>
    refine ⟨0, [], by omega, rfl, hide ⟨by simp, .inl ⟨rfl, rfl⟩⟩, hide (by simpa using Built.nil _ _ _ _), hide ?_, by (repeat' (first | (with_reducible exact Below.refl _ _) | (with_reducible assumption) | (with_reducible refine Below.setCell ?_ ?_ _) | (with_reducible refine Below.alloc ?_ ?_ _) | (with_reducible refine Below.drew ?_) | (with_reducible refine below_drewN ?_ _) | (with_reducible refine Below.trans ?_ (Below.mono (by assumption) ?_)) | (simp <;> omega) | omega))⟩
    have := (Blk.new (w.alloc (.cells #[.int .i64 5, .float .f64 0, .string ⟨#[]⟩, .slice A n c] 42)) 55 #[.string ⟨#[]⟩, .float .f64 0, .string ⟨#[]⟩, .slice none 0 0, .slice none 0 0, .bool false, .string ⟨#[]⟩, .int .u8 0, .pointer none, .pointer none])
    simpa using this
  case round =>
    obtain ⟨k, css, hk, rfl, hown, hbl, HB, hb⟩ := hrel
    have zR : w.heap.size + 1 < wr.heap.size := HB.out.lt
    by_cases hlt : k < n
    · obtain ⟨y, hy⟩ : ∃ y, ns[k]? = some y := ⟨_, List.getElem?_eq_getElem (by rw [HN.out]; exact hlt)⟩
      obtain ⟨g, b, cb, rfl, hg, hbb, h0, hrow⟩ := Grid.at_ (RdL.below (rowOk_keeps _) HR.out hb) hy
      have r0 := hrow 0 _ rfl
      have r1 := hrow 1 _ rfl
      have r2 := hrow 2 _ rfl
      have r3 := hrow 3 _ rfl
      have hys := hide (HS.out y (List.mem_of_getElem? hy))
      have HY := hide hy
      have hbz : b < wr.heap.size := by have := hbb.2; omega
      clear hy hrow
      have hlti : (k : Int) < n := by omega
      go_wp2_with fail
      refine wp_loop_rounds 2 ?_
      rw [rounds_succ]
      go_wp2_with (first
        | (go_at_call 37; refine (inner_num y hys.out _).mono ?_; rintro e w1 ⟨rfl, hb1⟩; obtain ⟨hc1, hf1⟩ := bcell hb1; have hz1 : wr.heap.size < w1.heap.size := by (have := hb1.size; simp at this; omega))
        | (at_builtin; refine wpList_append_any _ rfl (.tmp 50) (.tmp 53) _ rfl (w1.heap.size + 1) 55 j0 _ 10 136 Tryz.underlying50 hj hy0 hy1 hy2 rfl (by omega) (.slice none 0 0) 0 [] rfl ⟨rfl, .inl ⟨rfl, rfl⟩⟩ (w1.heap.size + 1) (some ⟨w1.heap.size, 0, none⟩) 1 1 (fNum y) rfl (reads_new w1 55 #[.string ⟨#[]⟩, .float .f64 (word y), .string ⟨#[]⟩, .slice none 0 0, .slice none 0 0, .bool false, .string ⟨#[]⟩, .int .u8 1, .pointer none, .pointer none] 10 1 rfl) (by simp [Value.oneCell', fNum]) (by unfold maxLen; omega) (by omega) (by simp) ?_; intro v2 w2 hown2 hgrow2 hloc2; have hbX := Below.grown (B := wr.heap.size) (a := wr) (by (repeat' (first | (with_reducible exact Below.refl _ _) | (with_reducible assumption) | (with_reducible refine Below.setCell ?_ ?_ _) | (with_reducible refine Below.alloc ?_ ?_ _) | (with_reducible refine Below.drew ?_) | (with_reducible refine below_drewN ?_ _) | (with_reducible refine Below.trans ?_ (Below.mono (by assumption) ?_)) | (simp <;> omega) | omega))) hgrow2 (by simp; omega) (by intro k hk; simp [Value.ownBlock] at hk)))
      obtain ⟨g2, c2, cur2, hv2, hge2, hh2, -, -, -, ht2⟩ : ∃ g2 c2 cur2, v2 = .slice (some ⟨g2, 0, none⟩) 1 c2 ∧ w1.heap.size + 1 ≤ g2 ∧ w2.heap[g2]? = some (.cells cur2 55 (0, 0)) ∧ 1 ≤ c2 ∧ c2 ≤ maxLen ∧ cur2.size = c2 * 10 ∧ cur2.toList.take (1 * 10) = fNum y := by
        rcases hown2.2 with ⟨_, h⟩ | ⟨g2, c2, cur2, h1, h2, h3, h4, h5, h6, h7⟩
        · omega
        · exact ⟨g2, c2, cur2, h1, h2, h3, h4, h5, h6, by simpa using h7⟩
      have hrow : ∀ j u, (fNum y)[j]? = some u → w2.cell? ⟨g2, j, none⟩ = some u := fun j u hu => by
        rw [cell_of_row w2 g2 j cur2 _ (0, 0) hh2]
        rw [← ht2, List.getElem?_take] at hu
        split at hu
        · simpa using hu
        · cases hu
      have HROW := hide hrow
      have hg2 : g2 < w2.heap.size := (Array.getElem?_eq_some_iff.1 hh2).1
      subst hv2
      clear hrow hown2 hgrow2 hloc2 hh2 ht2 hc1 hf1
      have hown2 := hide (own_below hown.out hbX)
      have hbl2 := hide (hbl.out.below (rowOk_keeps _) hbX)
      have HB2 := hide (HB.out.below hbX zR)
      have hz2 := hbX.size
      rw [rounds_succ]
      go_wp2_with (at_builtin; refine wpList_append_any _ rfl (.tmp 56) (.tmp 58) _ rfl (w.heap.size + 2) 50 i0 _ 1 24 Tryz.underlying51 hi hx0 hx1 hx2 rfl (by omega) _ k _ rfl (hown2.out.alloc _) (w2.heap.size + 1) (some ⟨w2.heap.size, 0, none⟩) 1 1 [.slice (some ⟨g2, 0, none⟩) 1 c2] rfl (reads_new w2 50 #[.slice (some ⟨g2, 0, none⟩) 1 c2] 1 1 rfl) (by simp [Value.oneCell']) (by unfold maxLen; omega) (by omega) (by simp; omega) ?_; intro v' w' hown' hgrow hloc)
      go_roundw
      case rel =>
        refine ⟨k + 1, css ++ [[.slice (some ⟨g2, 0, none⟩) 1 c2]], by omega, by go_num, hide (by simpa using hown'), hide ?_, hide ((HB2.out.alloc _).grown hgrow (fun e => by have := own_ge hown.out _ e.symm; omega)), ?_⟩
        · rw [List.take_add_one, HY.out]
          show Built _ _ _ _ _ (List.take k ns ++ [y])
          have b1 := hbl2.out.below (rowOk_keeps _) ((Below.refl w2.heap.size w2).alloc (Nat.le_refl _) (.cells #[.slice (some ⟨g2, 0, none⟩) 1 c2] 50))
          refine (b1.snoc rfl ⟨g2, c2, rfl, ⟨by omega, by simp; omega, fun e => ?_⟩, fun j u hu => ?_⟩).grown (rowOk_keeps _) hgrow hloc
          · have := own_lt hown.out g2 e
            omega
          · exact (World.cell?_alloc_lt w2 _ ⟨g2, j, none⟩ hg2).trans (HROW.out j u hu)
        · exact ((hb.trans (hbX.mono (by omega))).alloc (by omega) _).grown hgrow (by simp; omega) (fun q e => by have := own_ge hown.out q e; omega)
      case measure => simp [intOf]; omega
    · obtain rfl : k = n := by omega
      obtain ⟨A', c', rfl⟩ := own_slice hown.out
      have hlti : ¬ (k : Int) < k := by omega
      have hgrid := hide (show Grid wr (In (w.heap.size + 2) wr.heap.size) fNum A' ns from by
        have h := hbl.out
        rw [← HN.out, List.take_length] at h
        exact RdL.of_built (h.all_ (rowOk_keeps _)) hown.out HN.out.symm (fun g _ h1 h2 => ⟨h1, h2⟩))
      have hkpos : (k : Int) > 0 := by omega
      obtain ⟨y0, hy0'⟩ : ∃ y0, ns[0]? = some y0 := ⟨_, List.getElem?_eq_getElem (by rw [HN.out]; omega)⟩
      obtain ⟨g0, b0, cb0, rfl, hg0, hb0, r00, -⟩ := Grid.at_ hgrid.out hy0'
      have hg0z : g0 < wr.heap.size := hg0.2
      clear hy0' hown hbl
      go_wp2_with (first
        | (go_at_call 58; refine (matrix_any _ k c' _).mono ?_; rintro e w1 ⟨rfl, hb1⟩; obtain ⟨hc1, hf1⟩ := bcell hb1; have hz1 := hb1.size; have r01 : w1.cell? ⟨g0, 0, none⟩ = some (.slice (some ⟨b0, 0, none⟩) 1 cb0) := (hc1 _ _ hg0z).trans r00; have hg01 : g0 < w1.heap.size := (by omega); have hg02 : g0 < w1.heap.size + 1 := (by omega); have hg03 : g0 < w1.heap.size + 1 + 1 := (by omega))
        | (go_at_call 35; refine (new_any _).mono ?_; rintro e w2 ⟨rfl, rfl⟩))
      go_region_law (go_simp; go_at_call 36; refine (push_new ((w1.alloc (.cells #[.string ⟨#[]⟩, .float .f64 0, .string ⟨#[]⟩, .slice none 0 0, .slice (some ⟨g0, 0, none⟩) k c', .bool false, .string ⟨#[]⟩, .int .u8 4, .pointer (some ⟨w1.heap.size + 1, 0, none⟩), .pointer (some ⟨w1.heap.size + 1 + 1, 0, none⟩)] 55)).alloc (.cells #[.pointer (some ⟨w1.heap.size + 1, 0, none⟩), .pointer (some ⟨w1.heap.size + 1, 0, none⟩), .pointer none, .nilIface, .int .i64 0] 89)) (w1.heap.size + 1 + 1) (by simp) _ _).mono ?_; rintro e w3 ⟨⟨u, rfl⟩, hb3, hc3, hz3⟩)
      all_goals
        have hB9 : Blk w3 w1.heap.size 55 #[.string ⟨#[]⟩, .float .f64 0, .string ⟨#[]⟩, .slice none 0 0, .slice (some ⟨g0, 0, none⟩) k c', .bool false, .string ⟨#[]⟩, .int .u8 4, .pointer (some ⟨w1.heap.size + 1, 0, none⟩), .pointer (some ⟨w1.heap.size + 1 + 1, 0, none⟩)] := ((Blk.new w1 _ _).alloc _).below hb3 (by omega)
        have hL1 : Blk w3 (w1.heap.size + 1) 89 #[.pointer (some ⟨w1.heap.size + 1, 0, none⟩), .pointer (some ⟨w1.heap.size + 1, 0, none⟩), .pointer none, .nilIface, .int .i64 0] := (show Blk ((w1.alloc (.cells #[.string ⟨#[]⟩, .float .f64 0, .string ⟨#[]⟩, .slice none 0 0, .slice (some ⟨g0, 0, none⟩) k c', .bool false, .string ⟨#[]⟩, .int .u8 4, .pointer (some ⟨w1.heap.size + 1, 0, none⟩), .pointer (some ⟨w1.heap.size + 1 + 1, 0, none⟩)] 55)).alloc (.cells #[.pointer (some ⟨w1.heap.size + 1, 0, none⟩), .pointer (some ⟨w1.heap.size + 1, 0, none⟩), .pointer none, .nilIface, .int .i64 0] 89)) (w1.heap.size + 1) 89 #[.pointer (some ⟨w1.heap.size + 1, 0, none⟩), .pointer (some ⟨w1.heap.size + 1, 0, none⟩), .pointer none, .nilIface, .int .i64 0] from by simpa using Blk.new (w1.alloc (.cells #[.string ⟨#[]⟩, .float .f64 0, .string ⟨#[]⟩, .slice none 0 0, .slice (some ⟨g0, 0, none⟩) k c', .bool false, .string ⟨#[]⟩, .int .u8 4, .pointer (some ⟨w1.heap.size + 1, 0, none⟩), .pointer (some ⟨w1.heap.size + 1 + 1, 0, none⟩)] 55)) 89 #[.pointer (some ⟨w1.heap.size + 1, 0, none⟩), .pointer (some ⟨w1.heap.size + 1, 0, none⟩), .pointer none, .nilIface, .int .i64 0]).below hb3 (by omega)
        have hB1 := (((HB.out.below hb1 zR).alloc (.cells #[.string ⟨#[]⟩, .float .f64 0, .string ⟨#[]⟩, .slice none 0 0, .slice (some ⟨g0, 0, none⟩) k c', .bool false, .string ⟨#[]⟩, .int .u8 4, .pointer (some ⟨w1.heap.size + 1, 0, none⟩), .pointer (some ⟨w1.heap.size + 1 + 1, 0, none⟩)] 55)).alloc (.cells #[.pointer (some ⟨w1.heap.size + 1, 0, none⟩), .pointer (some ⟨w1.heap.size + 1, 0, none⟩), .pointer none, .nilIface, .int .i64 0] 89)).below hb3 (by omega)
        have hbw1 : Below w.heap.size w w1 := hb.trans (hb1.mono (by omega))
        have hb13 : Below w1.heap.size w1 w3 := (by (repeat' (first | (with_reducible exact Below.refl _ _) | (with_reducible assumption) | (with_reducible refine Below.setCell ?_ ?_ _) | (with_reducible refine Below.alloc ?_ ?_ _) | (with_reducible refine Below.drew ?_) | (with_reducible refine below_drewN ?_ _) | (with_reducible refine Below.trans ?_ (Below.mono (by assumption) ?_)) | (simp <;> omega) | omega)) : Below w1.heap.size w1 ((w1.alloc (.cells #[.string ⟨#[]⟩, .float .f64 0, .string ⟨#[]⟩, .slice none 0 0, .slice (some ⟨g0, 0, none⟩) k c', .bool false, .string ⟨#[]⟩, .int .u8 4, .pointer (some ⟨w1.heap.size + 1, 0, none⟩), .pointer (some ⟨w1.heap.size + 1 + 1, 0, none⟩)] 55)).alloc (.cells #[.pointer (some ⟨w1.heap.size + 1, 0, none⟩), .pointer (some ⟨w1.heap.size + 1, 0, none⟩), .pointer none, .nilIface, .int .i64 0] 89))).trans (hb3.mono (by omega))
        have hgrid3 := hide (RdL.below (rowOk_keeps _) hgrid.out (hb1.trans (hb13.mono hz1)))
        clear hc1 hf1 r00 r01 hgrid HB
        have p0 : w3.cell? ⟨w1.heap.size, 0, none⟩ = some (.string ⟨#[]⟩) := hB9.cell 0
        have p1 : w3.cell? ⟨w1.heap.size, 1, none⟩ = some (.float .f64 0) := hB9.cell 1
        have p2 : w3.cell? ⟨w1.heap.size, 2, none⟩ = some (.string ⟨#[]⟩) := hB9.cell 2
        have p3 : w3.cell? ⟨w1.heap.size, 3, none⟩ = some (.slice none 0 0) := hB9.cell 3
        have p4 : w3.cell? ⟨w1.heap.size, 4, none⟩ = some (.slice (some ⟨g0, 0, none⟩) k c') := hB9.cell 4
        have p5 : w3.cell? ⟨w1.heap.size, 5, none⟩ = some (.bool false) := hB9.cell 5
        have p6 : w3.cell? ⟨w1.heap.size, 6, none⟩ = some (.string ⟨#[]⟩) := hB9.cell 6
        have p7 : w3.cell? ⟨w1.heap.size, 7, none⟩ = some (.int .u8 4) := hB9.cell 7
        have p8 : w3.cell? ⟨w1.heap.size, 8, none⟩ = some (.pointer (some ⟨w1.heap.size + 1, 0, none⟩)) := hB9.cell 8
        have p9 : w3.cell? ⟨w1.heap.size, 9, none⟩ = some (.pointer (some ⟨w1.heap.size + 1 + 1, 0, none⟩)) := hB9.cell 9
        have q0 : w3.cell? ⟨w.heap.size + 1, 0, none⟩ = some (.string ⟨#[]⟩) := hB1.cell 0
        have q1 : w3.cell? ⟨w.heap.size + 1, 1, none⟩ = some (.float .f64 0) := hB1.cell 1
        have q2 : w3.cell? ⟨w.heap.size + 1, 2, none⟩ = some (.string ⟨#[]⟩) := hB1.cell 2
        have q3 : w3.cell? ⟨w.heap.size + 1, 3, none⟩ = some (.slice none 0 0) := hB1.cell 3
        have q4 : w3.cell? ⟨w.heap.size + 1, 4, none⟩ = some (.slice none 0 0) := hB1.cell 4
        have q5 : w3.cell? ⟨w.heap.size + 1, 5, none⟩ = some (.bool false) := hB1.cell 5
        have q6 : w3.cell? ⟨w.heap.size + 1, 6, none⟩ = some (.string ⟨#[]⟩) := hB1.cell 6
        have q7 : w3.cell? ⟨w.heap.size + 1, 7, none⟩ = some (.int .u8 0) := hB1.cell 7
        have q8 : w3.cell? ⟨w.heap.size + 1, 8, none⟩ = some (.pointer none) := hB1.cell 8
        have q9 : w3.cell? ⟨w.heap.size + 1, 9, none⟩ = some (.pointer none) := hB1.cell 9
        have fq : ∀ o, w3.frozen? ⟨w.heap.size + 1, o, none⟩ = false := hB1.frozen
        go_wp2_with fail
        have far : ∀ (W : World) (j b o : Nat) (u : Value), b ≠ w.heap.size + 1 → (W.setCell ⟨w.heap.size + 1, j, none⟩ u).cell? ⟨b, o, none⟩ = W.cell? ⟨b, o, none⟩ := fun W j b o u hb => World.cell?_setCell_other _ _ _ _ (fun e => hb (by injection e with e; exact e.symm))
        have n1 : w1.heap.size + 1 ≠ w.heap.size + 1 := by omega
        have n2 : w1.heap.size + 1 + 1 ≠ w.heap.size + 1 := by omega
        refine bodyPost_ret (v := .agg #[.string ⟨#[]⟩, .float .f64 0, .string ⟨#[]⟩, .slice none 0 0, .slice (some ⟨g0, 0, none⟩) k c', .bool false, .string ⟨#[]⟩, .int .u8 4, .pointer (some ⟨w1.heap.size + 1, 0, none⟩), .pointer (some ⟨w1.heap.size + 1 + 1, 0, none⟩)]) ?_ rfl ⟨some ⟨g0, 0, none⟩, c', w1.heap.size + 1, w1.heap.size + 1 + 1, by rw [HN.out], ⟨some ⟨g0, 0, none⟩, c', w1.heap.size + 1, w1.heap.size + 1 + 1, rfl, ?_, ⟨by omega, by simp; omega⟩, ⟨by omega, by simp; omega⟩, ?_, ?_⟩, ?_⟩
        · simp [results, Tryz.results37, go_sem, q0, q1, q2, q3, q4, q5, q6, q7, q8, q9]
        · refine RdL.more (rowOk_keeps _) (lo := w.heap.size + 2) (B := wr.heap.size) ?_ (by omega) (by simp; omega)
          iterate 10 (refine RdL.setCell (rowOk_keeps _) ?_ (by simp) _)
          exact hgrid3.out
        · rw [far _ _ _ _ _ n1, far _ _ _ _ _ n1, far _ _ _ _ _ n1, far _ _ _ _ _ n1, far _ _ _ _ _ n1, far _ _ _ _ _ n1, far _ _ _ _ _ n1, far _ _ _ _ _ n1, far _ _ _ _ _ n1, far _ _ _ _ _ n1]
          exact hL1.cell 4
        · rw [far _ _ _ _ _ n2, far _ _ _ _ _ n2, far _ _ _ _ _ n2, far _ _ _ _ _ n2, far _ _ _ _ _ n2, far _ _ _ _ _ n2, far _ _ _ _ _ n2, far _ _ _ _ _ n2, far _ _ _ _ _ n2, far _ _ _ _ _ n2]
          exact hc3
        · have hbw3 : Below w.heap.size w w3 := hbw1.trans (hb13.mono (by omega))
          (repeat' (first | (with_reducible exact Below.refl _ _) | (with_reducible assumption) | (with_reducible refine Below.setCell ?_ ?_ _) | (with_reducible refine Below.alloc ?_ ?_ _) | (with_reducible refine Below.drew ?_) | (with_reducible refine below_drewN ?_ _) | (with_reducible refine Below.trans ?_ (Below.mono (by assumption) ?_)) | (simp <;> omega) | omega))
end Go.Proofs.YtjcnnjknhemimaaGreatDoor
