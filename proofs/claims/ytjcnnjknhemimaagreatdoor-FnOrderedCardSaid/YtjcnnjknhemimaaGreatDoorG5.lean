/- Contracts of laws.of and laws.all over numbers and columns. -/
import Derived.Test.YtjcnnjknhemimaaGreatDoorG3
import Derived.Deep.Cut
import Derived.Deep.CutRange
import Derived.Deep.CutBlock
import Derived.Deep.RegionLaw
namespace Go.Proofs.YtjcnnjknhemimaaGreatDoor
open Go Go.RowKit
attribute [local go_sem] run_store_float
theorem ofV_num (n : Int) : ofV ⟨1, n, 1, ⟨#[]⟩⟩ = ⟨1, dbl n, ⟨#[]⟩⟩ := by simp [ofV, xOf, dbl]
theorem okV_num (n : Int) (h : n.natAbs ≤ 9999) : OkV ⟨1, n, 1, ⟨#[]⟩⟩ := ⟨by simp, fun _ => ⟨by simp only; omega, 0, by omega, by simp⟩⟩
/-- laws.all of a row of one number. -/
theorem all_one (n : Int) (h : n.natAbs ≤ 9999) (b c : Nat) (w : World) (hb : b < w.heap.size) (hc : ∀ j u, (sNum n)[j]? = some u → w.cell? ⟨b, j, none⟩ = some u) :
    Calls Tryz.prog 13 #[.slice (some ⟨b, 0, none⟩) 1 c] w fun e w' => ∃ g c', e = .returned (.slice (some ⟨g, 0, none⟩) 1 c') ∧ w.heap.size ≤ g ∧ g < w'.heap.size ∧ (∀ j u, (iNum n)[j]? = some u → w'.cell? ⟨g, j, none⟩ = some u) ∧ Below w.heap.size w w' := by
  refine (all_any [⟨1, n, 1, ⟨#[]⟩⟩] (fun v hv => by rw [List.mem_singleton.1 hv]; exact okV_num n h) (some ⟨b, 0, none⟩) 1 c (by omega) w ⟨rfl, fun _ => ⟨b, rfl, hb, fun j u hu => hc j u (by simpa [cellsV, V.cells, sNum] using hu)⟩⟩).mono ?_
  rintro e w' ⟨A', c', rfl, hown, hbl⟩
  have h1 := hown.2
  rcases h1 with ⟨_, h0⟩ | ⟨g, cap, cur, hv, hg, hh, _, _, _, ht⟩
  · omega
  · injection hv with hA _ hcap
    subst hA
    refine ⟨g, c', rfl, hg, (Array.getElem?_eq_some_iff.1 hh).1, fun j u hu => ?_, hbl⟩
    rw [cell_of_row w' g j cur _ (0, 0) hh]
    have e : cellsI (List.map ofV [⟨1, n, 1, ⟨#[]⟩⟩]) = iNum n := by simp [cellsI, I.cells, ofV_num, iNum]
    rw [e] at ht
    rw [← ht, List.getElem?_take] at hu
    split at hu
    · simpa using hu
    · cases hu
theorem own_far {w : World} {base : Nat} {e : TypeId} {size n : Nat} {v : Value} {xs : List Value} (h : w.ownsRow base e size v n xs) {p : Addr} (hp : p.block < base) (u : Value) : (w.setCell p u).ownsRow base e size v n xs := by
  refine ⟨h.1, ?_⟩
  rcases h.2 with h0 | ⟨g, cap, cur, hv, hg, hh, hr⟩
  · exact .inl h0
  · exact .inr ⟨g, cap, cur, hv, hg, (Below.heap_setCell w p u g (by omega)).trans hh, hr⟩
theorem Built.setCell {X : Type} {w : World} {lo size : Nat} {ok : Ok X} {css : List (List Value)} {xs : List X} {own : Option Nat} (K : Keeps ok) (h : Built w (Apt lo w.heap.size own) size ok css xs) {p : Addr} (hp : p.block < lo) (u : Value) : Built (w.setCell p u) (Apt lo (w.setCell p u).heap.size own) size ok css xs :=
  h.keep K fun g hS => ⟨⟨hS.1, by simpa using hS.2.1, hS.2.2⟩, Below.heap_setCell w p u g (by have := hS.1; omega)⟩
/-- A value of the thin package that is a column, as a call returns it. -/
def ColI (ns : List Int) (w : World) (e : Ending) (w' : World) : Prop := ∃ A c, e = .returned (.agg #[.int .i64 5, .float .f64 0, .string ⟨#[]⟩, .slice A ns.length c]) ∧ Grid w' (In w.heap.size w'.heap.size) iNum A ns ∧ Below w.heap.size w w'
theorem infoRowI : (Tryz.prog.info? 37).map (fun i => (i.zero, i.size, i.bytes)) = some (some (.slice none 0 0), 1, 24) := by kernel_rfl
set_option maxRecDepth 100000 in
set_option maxHeartbeats 2000000 in
theorem of_col (ns : List Int) (hok : OkAr (.col ns)) (A : Option Addr) (n c : Nat) (hn : ns.length = n) (lo : Nat) (w : World) (hr : Grid w (In lo w.heap.size) sNum A ns) :
    Calls Tryz.prog 23 #[.agg #[.int .i64 5, .int .i64 0, .int .i64 0, .string ⟨#[]⟩, .slice A n c]] w (ColI ns w) := by
  obtain ⟨i0, hi, hx0, hx1, hx2⟩ := info_parts infoRowI
  have HR := hide hr
  have HS := hide hok.2.2
  have HN := hide hn
  have hn1 : 1 ≤ n := by have := hok.1; omega
  have hn2 : n ≤ 120 := by have := hok.2.1; omega
  clear hr hok hn
  go_enter Tryz.func23, Tryz.ntmps23
  go_wp2_with fail
  go_loopw [4] (fun i wr => ∃ (k : Nat) (v : Value) (css : List (List Value)), k ≤ n ∧ i = .int .i64 k ∧ Hid (wr.ownsRow (w.heap.size + 3) 37 1 v k css.flatten) ∧ Hid (Built wr (Apt (w.heap.size + 3) wr.heap.size v.ownBlock) 1 (rowOk iNum) css (ns.take k)) ∧
      Hid (Blk wr w.heap.size 32 #[.int .i64 5, .int .i64 0, .int .i64 0, .string ⟨#[]⟩, .slice A n c] ∧ Blk wr (w.heap.size + 1) 27 #[.int .i64 0, .float .f64 0, .string ⟨#[]⟩, .slice none 0 0] ∧ Blk wr (w.heap.size + 2) 27 #[.int .i64 5, .float .f64 0, .string ⟨#[]⟩, v]) ∧ Below w.heap.size w wr) (fun i _ => n - (intOf i).toNat)
  case atStart =>
    refine ⟨0, .slice none 0 0, [], by omega, rfl, hide ⟨by simp, .inl ⟨rfl, rfl⟩⟩, hide (by simpa using Built.nil _ _ _ _), hide ⟨?_, ?_, ?_⟩, by (repeat' (first | (with_reducible exact Below.refl _ _) | (with_reducible assumption) | (with_reducible refine Below.setCell ?_ ?_ _) | (with_reducible refine Below.alloc ?_ ?_ _) | (with_reducible refine Below.drew ?_) | (with_reducible refine below_drewN ?_ _) | (with_reducible refine Below.trans ?_ (Below.mono (by assumption) ?_)) | (simp <;> omega) | omega))⟩
    · exact ((Blk.new w _ _).alloc _).alloc _
    · have := (Blk.new (w.alloc (.cells #[.int .i64 5, .int .i64 0, .int .i64 0, .string ⟨#[]⟩, .slice A n c] 32)) 27 #[.int .i64 0, .float .f64 0, .string ⟨#[]⟩, .slice none 0 0])
      simpa using this.alloc _
    · have := (Blk.new ((w.alloc (.cells #[.int .i64 5, .int .i64 0, .int .i64 0, .string ⟨#[]⟩, .slice A n c] 32)).alloc (.cells #[.int .i64 0, .float .f64 0, .string ⟨#[]⟩, .slice none 0 0] 27)) 27 #[.int .i64 5, .float .f64 0, .string ⟨#[]⟩, .slice none 0 0])
      simpa using this
  case round =>
    obtain ⟨k, v, css, hk, rfl, hown, hbl, HB, hb⟩ := hrel
    have z2 : w.heap.size + 2 < wr.heap.size := HB.out.2.2.lt
    have b4 : wr.cell? ⟨w.heap.size, 4, none⟩ = some (.slice A n c) := HB.out.1.cell 4
    by_cases hlt : k < n
    · obtain ⟨x, hx⟩ : ∃ x, ns[k]? = some x := ⟨_, List.getElem?_eq_getElem (by rw [HN.out]; exact hlt)⟩
      obtain ⟨g, b, cb, rfl, hg, hbb, h0, hrow⟩ := Grid.at_ (RdL.below (rowOk_keeps _) HR.out hb) hx
      have HA := hide (all_one x (HS.out x (List.mem_of_getElem? hx)) b cb wr.drew (by have := hbb.2; show b < wr.heap.size; omega) hrow)
      have HX := hide hx
      have hgz : g < w.heap.size := hg.2
      have o3 : wr.cell? ⟨w.heap.size + 2, 3, none⟩ = some v := HB.out.2.2.cell 3
      have f3 : wr.frozen? ⟨w.heap.size + 2, 3, none⟩ = false := HB.out.2.2.frozen 3
      clear hx hrow
      have hlti : (k : Int) < n := by omega
      go_upto_block 2 with fail
      go_cut [] from 30 to 47 (fun wx => ∃ (v' : Value) (css' : List (List Value)), Hid (wx.ownsRow (w.heap.size + 3) 37 1 v' (k + 1) css'.flatten) ∧ Hid (Built wx (Apt (w.heap.size + 3) wx.heap.size v'.ownBlock) 1 (rowOk iNum) css' (ns.take (k + 1))) ∧
        Hid (Blk wx w.heap.size 32 #[.int .i64 5, .int .i64 0, .int .i64 0, .string ⟨#[]⟩, .slice (some ⟨g, 0, none⟩) n c] ∧ Blk wx (w.heap.size + 1) 27 #[.int .i64 0, .float .f64 0, .string ⟨#[]⟩, .slice none 0 0] ∧ Blk wx (w.heap.size + 2) 27 #[.int .i64 5, .float .f64 0, .string ⟨#[]⟩, v']) ∧ Below w.heap.size w wx)
      case first =>
        go_step
        go_region_law (first
          | (refine step_append_any _ rfl (.tmp 38) (.tmp 45) _ rfl (w.heap.size + 3) 37 i0 _ 1 24 Tryz.underlying25 hi hx0 hx1 hx2 rfl (by omega) v k _ rfl ((own_below hown.out hb1).alloc _) (w1.heap.size + 1) (some ⟨w1.heap.size, 0, none⟩) 1 1 [.slice (some ⟨g2, 0, none⟩) 1 c2] rfl (reads_new w1 37 #[.slice (some ⟨g2, 0, none⟩) 1 c2] 1 1 rfl) (by simp [Value.oneCell']) (by unfold maxLen; omega) (by omega) (by simp; omega) ?_; intro v' w' hown' hgrow hloc; obtain ⟨A2, c3, rfl⟩ := own_slice hown'; have ne2 : ∀ q, q < w.heap.size + 3 → some q ≠ v.ownBlock := (fun q hq e => by have := own_ge hown.out _ e.symm; omega); have HB2 := ((HB.out.2.2.below hb1 z2).alloc (.cells #[.slice (some ⟨g2, 0, none⟩) 1 c2] 37)).grown hgrow (ne2 _ (by omega)); have HB1 := ((HB.out.2.1.below hb1 (by omega)).alloc (.cells #[.slice (some ⟨g2, 0, none⟩) 1 c2] 37)).grown hgrow (ne2 _ (by omega)); have HB0 := ((HB.out.1.below hb1 (by omega)).alloc (.cells #[.slice (some ⟨g2, 0, none⟩) 1 c2] 37)).grown hgrow (ne2 _ (by omega)); have F2 := HB2.frozen 3; have C2 := HB2.cell 3)
          | (go_simp; go_at_call 13; refine HA.out.mono ?_; rintro e w1 ⟨g2, c2, rfl, hge2, hg2, hrow2, hb1⟩; have hge2 : wr.heap.size ≤ g2 := hge2; have hb1 : Below wr.heap.size wr w1 := ((Below.refl wr.heap.size wr).drew).trans hb1; have hz1 : wr.heap.size ≤ w1.heap.size := hb1.size; have s1a : w1.cell? ⟨w.heap.size + 2, 3, none⟩ = some v := (hb1.cell (p := ⟨w.heap.size + 2, 3, none⟩) z2).trans o3; have s1b : w.heap.size + 2 < w1.heap.size := (by omega)))
        all_goals
          go_wp2_with fail
          go_meet
          case rel =>
            refine ⟨.slice A2 (k + 1) c3, css ++ [[.slice (some ⟨g2, 0, none⟩) 1 c2]], hide ?_, hide ?_, hide ⟨HB0.far (by simp <;> omega) _, HB1.far (by simp <;> omega) _, by simpa using HB2.set_ 3 (.slice A2 (k + 1) c3)⟩, ?_⟩
            · exact own_far (by simpa using hown') (by show w.heap.size + 2 < _; omega) _
            · rw [List.take_add_one, HX.out]
              refine Built.setCell (rowOk_keeps _) ?_ (by show w.heap.size + 2 < _; omega) _
              show Built _ _ _ _ _ (List.take k ns ++ [x])
              have b1 := (hbl.out.below (rowOk_keeps _) hb1).below (rowOk_keeps _) ((Below.refl w1.heap.size w1).alloc (Nat.le_refl _) (.cells #[.slice (some ⟨g2, 0, none⟩) 1 c2] 37))
              refine (b1.snoc rfl ⟨g2, c2, rfl, ⟨by omega, by simp; omega, fun e => ?_⟩, fun j u hu => ?_⟩).grown (rowOk_keeps _) hgrow hloc
              · have := own_lt hown.out g2 e
                omega
              · exact (World.cell?_alloc_lt w1 _ ⟨g2, j, none⟩ hg2).trans (hrow2 j u hu)
            · exact (((hb.trans (hb1.mono (by omega))).alloc (by omega) _).grown hgrow (by simp; omega) (fun q e => by have := own_ge hown.out q e; omega)).setCell (by simp <;> omega) _
      case rest =>
        obtain ⟨v', css', hown', hbl', HB', hb'⟩ := hcut
        clear hown hbl HB hb b4 o3 f3 HA
        go_wp2_with fail
        go_roundw
        case rel => exact ⟨k + 1, v', css', by omega, by go_num, hown', hbl', HB', hb'⟩
        case measure => simp [intOf]; omega
    · obtain rfl : k = n := by omega
      obtain ⟨A', c', rfl⟩ := own_slice hown.out
      have hgrid := hide (show Grid wr (In (w.heap.size + 3) wr.heap.size) iNum A' ns from by
        have h := hbl.out
        rw [← HN.out, List.take_length] at h
        exact RdL.of_built (h.all_ (rowOk_keeps _)) hown.out HN.out.symm (fun g _ h1 h2 => ⟨h1, h2⟩))
      have hlti : ¬ (k : Int) < k := by omega
      have p0 : wr.cell? ⟨w.heap.size + 2, 0, none⟩ = some (.int .i64 5) := HB.out.2.2.cell 0
      have p1 : wr.cell? ⟨w.heap.size + 2, 1, none⟩ = some (.float .f64 0) := HB.out.2.2.cell 1
      have p2 : wr.cell? ⟨w.heap.size + 2, 2, none⟩ = some (.string ⟨#[]⟩) := HB.out.2.2.cell 2
      have p3 : wr.cell? ⟨w.heap.size + 2, 3, none⟩ = some (.slice A' k c') := HB.out.2.2.cell 3
      have q0 : wr.cell? ⟨w.heap.size + 1, 0, none⟩ = some (.int .i64 0) := HB.out.2.1.cell 0
      have q1 : wr.cell? ⟨w.heap.size + 1, 1, none⟩ = some (.float .f64 0) := HB.out.2.1.cell 1
      have q2 : wr.cell? ⟨w.heap.size + 1, 2, none⟩ = some (.string ⟨#[]⟩) := HB.out.2.1.cell 2
      have q3 : wr.cell? ⟨w.heap.size + 1, 3, none⟩ = some (.slice none 0 0) := HB.out.2.1.cell 3
      have fq : ∀ o, wr.frozen? ⟨w.heap.size + 1, o, none⟩ = false := HB.out.2.1.frozen
      go_wp2_with fail
      refine bodyPost_ret (v := .agg #[.int .i64 5, .float .f64 0, .string ⟨#[]⟩, .slice A' k c']) ?_ rfl ⟨A', c', by rw [HN.out], ?_, ?_⟩
      · simp [results, Tryz.results23, go_sem, q0, q1, q2, q3]
      · refine (RdL.more (rowOk_keeps _) (RdL.setCell (rowOk_keeps _) (RdL.setCell (rowOk_keeps _) (RdL.setCell (rowOk_keeps _) (RdL.setCell (rowOk_keeps _) hgrid.out ?_ _) ?_ _) ?_ _) ?_ _) (by omega) ?_)
        all_goals (simp <;> omega)
      · (repeat' (first | (with_reducible exact Below.refl _ _) | (with_reducible assumption) | (with_reducible refine Below.setCell ?_ ?_ _) | (with_reducible refine Below.alloc ?_ ?_ _) | (with_reducible refine Below.drew ?_) | (with_reducible refine below_drewN ?_ _) | (with_reducible refine Below.trans ?_ (Below.mono (by assumption) ?_)) | (simp <;> omega) | omega))
end Go.Proofs.YtjcnnjknhemimaaGreatDoor
