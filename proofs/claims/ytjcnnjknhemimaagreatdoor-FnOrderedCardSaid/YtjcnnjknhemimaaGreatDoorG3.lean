/- Contracts of laws.numbered, laws.table, laws.column: small numbers as a column. -/
import Derived.Test.YtjcnnjknhemimaaGreatDoorG2
import Derived.Test.YtjcnnjknhemimaaGreatDoorL5
import Derived.LoopN
namespace Go.Proofs.YtjcnnjknhemimaaGreatDoor
open Go Go.RowKit
def itemCells (n : Int) : List Value := [.int .i64 1, .int .i64 n, .string ⟨#[]⟩]
theorem infoItem : (Tryz.prog.info? 62).map (fun i => (i.zero, i.size, i.bytes)) = some (some (.agg #[.int .i64 0, .int .i64 0, .string ⟨#[]⟩]), 3, 32) := by kernel_rfl
theorem items_len (n : Int) : (itemCells n).length = 3 := rfl
theorem part_16 (w : World) : Calls Tryz.prog 38 #[.int .i64 1, .int .i64 6] w fun e w' => e = .returned (.int .i64 1) ∧ w = w' := by
  go_enter Tryz.func38, Tryz.ntmps38
  go_wp2
  go_ret
  exact ⟨rfl, rfl⟩
theorem part_06 (w : World) : Calls Tryz.prog 38 #[.int .i64 0, .int .i64 6] w fun e w' => e = .returned (.int .i64 0) ∧ w = w' := by
  go_enter Tryz.func38, Tryz.ntmps38
  go_wp2
  go_ret
  exact ⟨rfl, rfl⟩
set_option maxRecDepth 100000 in
theorem val_any (n : Int) (hn : n.natAbs ≤ 9999) (w : World) : Calls Tryz.prog 39 #[.agg #[.int .i64 1, .int .i64 n, .string ⟨#[]⟩]] w fun e w' => e = .returned (.agg #[.int .i64 1, .int .i64 n, .int .i64 1, .string ⟨#[]⟩, .slice none 0 0]) ∧ Below w.heap.size w w' := by
  go_enter Tryz.func39, Tryz.ntmps39
  go_wp2_with (first
    | (go_at_call 38; refine (part_16 _).mono ?_; rintro e w1 ⟨rfl, rfl⟩)
    | (go_at_call 8; refine (int_fits n (by omega) (by omega) _).mono ?_; rintro e w1 ⟨rfl, hb⟩; obtain ⟨hc, hf⟩ := bcell hb; have hz : w.heap.size + 1 < w1.heap.size := by (have := hb.size; simp at this; omega)))
  refine bodyPost_ret (v := .agg #[.int .i64 1, .int .i64 n, .int .i64 1, .string ⟨#[]⟩, .slice none 0 0]) ?_ rfl ⟨rfl, ?_⟩
  · simp [results, Tryz.results39, go_sem, hc]
  · (repeat' (first | (with_reducible exact Below.refl _ _) | (with_reducible assumption) | (with_reducible refine Below.setCell ?_ ?_ _) | (with_reducible refine Below.alloc ?_ ?_ _) | (with_reducible refine Below.drew ?_) | (with_reducible refine below_drewN ?_ _) | (with_reducible refine Below.trans ?_ (Below.mono (by assumption) ?_)) | (simp <;> omega) | omega))
set_option maxRecDepth 100000 in
theorem Table_any (v : Value) (A : Option Addr) (n c : Nat) (hv : v = .slice A n c) (w : World) : Calls Tryz.prog 40 #[v] w fun e w' => e = .returned (.agg #[.int .i64 5, .int .i64 0, .int .i64 0, .string ⟨#[]⟩, v]) ∧ Below w.heap.size w w' := by
  subst hv
  go_enter Tryz.func40, Tryz.ntmps40
  go_wp2
  exact bodyPost_ret (v := .agg #[.int .i64 5, .int .i64 0, .int .i64 0, .string ⟨#[]⟩, .slice A n c]) (by simp [results, Tryz.results40, go_sem]) rfl ⟨rfl, by (repeat' (first | (with_reducible exact Below.refl _ _) | (with_reducible assumption) | (with_reducible refine Below.setCell ?_ ?_ _) | (with_reducible refine Below.alloc ?_ ?_ _) | (with_reducible refine Below.drew ?_) | (with_reducible refine below_drewN ?_ _) | (with_reducible refine Below.trans ?_ (Below.mono (by assumption) ?_)) | (simp <;> omega) | omega))⟩
theorem own_lt {w : World} {base : Nat} {e : TypeId} {size n : Nat} {v : Value} {xs : List Value} (h : w.ownsRow base e size v n xs) : ∀ k, v.ownBlock = some k → k < w.heap.size := by
  intro k hk
  rcases h.2 with ⟨rfl, _⟩ | ⟨g, cap, cur, rfl, _, hg, _⟩
  · simp [Value.ownBlock] at hk
  · simp [Value.ownBlock] at hk
    subst hk
    exact (Array.getElem?_eq_some_iff.1 hg).1
theorem infoRow : (Tryz.prog.info? 36).map (fun i => (i.zero, i.size, i.bytes)) = some (some (.slice none 0 0), 1, 24) := by kernel_rfl
set_option maxRecDepth 100000 in
set_option maxHeartbeats 2000000 in
theorem table_any (ns : List Int) (h1 : 1 ≤ ns.length) (h2 : ns.length ≤ 120) (hs : ∀ x ∈ ns, x.natAbs ≤ 9999) (A : Option Addr) (n c : Nat) (hn : ns.length = n) (w : World) (hr : Rd w w.heap.size 3 A n (ns.flatMap itemCells)) :
    Calls Tryz.prog 28 #[.slice A n c, .int .i64 0] w fun e w' => ∃ A' c', e = .returned (.agg #[.int .i64 5, .int .i64 0, .int .i64 0, .string ⟨#[]⟩, .slice A' n c']) ∧ Grid w' (In w.heap.size w'.heap.size) sNum A' ns ∧ Below w.heap.size w w' := by
  obtain ⟨i0, hi, hx0, hx1, hx2⟩ := info_parts infoRow
  obtain ⟨j0, hj, hy0, hy1, hy2⟩ := info_parts info27
  have HR := hide hr
  have HS := hide hs
  have HN := hide hn
  have hn1 : 1 ≤ n := by omega
  have hn2 : n ≤ 120 := by omega
  have hd1 : decide ((120 : Int) < (n : Int)) = false := decide_eq_false (by omega)
  have hd2 : ((n : Int) == 0) = false := by simp; omega
  clear hr hs h1 h2 hn
  go_enter Tryz.func28, Tryz.ntmps28
  go_wp2_with (go_at_call 38; refine (part_06 _).mono ?_; rintro e w1 ⟨rfl, rfl⟩)
  go_loopw [6, 7] (fun v i wr => ∃ (k : Nat) (css : List (List Value)), k ≤ n ∧ i = .int .i64 k ∧ Hid (wr.ownsRow (w.heap.size + 1) 36 1 v k css.flatten) ∧ Hid (Built wr (Apt (w.heap.size + 1) wr.heap.size v.ownBlock) 1 (rowOk sNum) css (ns.take k)) ∧ Below (w.heap.size + 1) (w.alloc (.cells #[.int .i64 0, .int .i64 0, .int .i64 0, .string ⟨#[]⟩, .slice none 0 0] 32)) wr) (fun _ i _ => n - (intOf i).toNat)
  case atStart => exact ⟨0, [], by omega, rfl, hide ⟨by simp, .inl ⟨rfl, rfl⟩⟩, hide (by simpa using Built.nil _ _ _ _), Below.refl _ _⟩
  case round =>
    obtain ⟨k, css, hk, rfl, hown, hbl, hb⟩ := hrel
    obtain ⟨cR, fR, zR⟩ := own_cells hb
    by_cases hlt : k < n
    · obtain ⟨g, x, rfl, hg, hx, h0, h1, h2⟩ : ∃ g x, A = some ⟨g, 0, none⟩ ∧ g < w.heap.size ∧ ns[k]? = some x ∧ wr.cell? ⟨g, k * 3, none⟩ = some (.int .i64 1) ∧ wr.cell? ⟨g, k * 3 + 1, none⟩ = some (.int .i64 x) ∧ wr.cell? ⟨g, k * 3 + 2, none⟩ = some (.string ⟨#[]⟩) := by
        obtain ⟨g, e, hg, hc⟩ := HR.out.2 (by omega)
        obtain ⟨x, hx⟩ : ∃ x, ns[k]? = some x := ⟨_, List.getElem?_eq_getElem (by rw [HN.out]; exact hlt)⟩
        have F := flatMap_at itemCells 3 items_len ns k x hx
        have hcb : ∀ j u, (ns.flatMap itemCells)[j]? = some u → wr.cell? ⟨g, j, none⟩ = some u := fun j u hu => (hb.cell (p := ⟨g, j, none⟩) (by show g < _; omega)).trans ((World.cell?_alloc_lt w _ ⟨g, j, none⟩ hg).trans (hc j u hu))
        exact ⟨g, x, e, hg, hx, hcb _ _ (F 0 (by omega)), hcb _ _ (F 1 (by omega)), hcb _ _ (F 2 (by omega))⟩
      have hxs := hide (HS.out x (List.mem_of_getElem? hx))
      have HX := hide hx
      clear hx
      have hlti : (k : Int) < n := by omega
      have hgz : g < wr.heap.size := by omega
      go_wp2_with fail
      refine wp_loop_rounds 2 ?_
      rw [rounds_succ]
      go_wp2_with (first
        | (go_at_call 39; refine (val_any x hxs.out _).mono ?_; rintro e w1 ⟨rfl, hb1⟩; obtain ⟨hc1, hf1⟩ := bcell hb1; have hz1 : wr.heap.size < w1.heap.size := by (have := hb1.size; simp at this; omega))
        | (at_builtin; refine wpList_append_any _ rfl (.tmp 51) (.tmp 53) _ rfl (w1.heap.size + 1) 32 j0 _ 5 64 Tryz.underlying36 hj hy0 hy1 hy2 rfl (by omega) (.slice none 0 0) 0 [] rfl ⟨rfl, .inl ⟨rfl, rfl⟩⟩ (w1.heap.size + 1) (some ⟨w1.heap.size, 0, none⟩) 1 1 (sNum x) rfl (reads_new_at _ w1.heap.size (by simp) 32 #[.int .i64 1, .int .i64 x, .int .i64 1, .string ⟨#[]⟩, .slice none 0 0] 5 1 rfl) (by simp [Value.oneCell', sNum]) (by unfold maxLen; omega) (by omega) (by simp) ?_; intro v2 w2 hown2 hgrow2 hloc2; have hbX := Below.grown (B := wr.heap.size) (a := wr) (by (repeat' (first | (with_reducible exact Below.refl _ _) | (with_reducible assumption) | (with_reducible refine Below.setCell ?_ ?_ _) | (with_reducible refine Below.alloc ?_ ?_ _) | (with_reducible refine Below.drew ?_) | (with_reducible refine below_drewN ?_ _) | (with_reducible refine Below.trans ?_ (Below.mono (by assumption) ?_)) | (simp <;> omega) | omega))) hgrow2 (by simp; omega) (by intro k hk; simp [Value.ownBlock] at hk)))
      obtain ⟨g2, c2, cur2, hv2, hge2, hh2, -, -, -, ht2⟩ : ∃ g2 c2 cur2, v2 = .slice (some ⟨g2, 0, none⟩) 1 c2 ∧ w1.heap.size + 1 ≤ g2 ∧ w2.heap[g2]? = some (.cells cur2 32 (0, 0)) ∧ 1 ≤ c2 ∧ c2 ≤ maxLen ∧ cur2.size = c2 * 5 ∧ cur2.toList.take (1 * 5) = sNum x := by
        rcases hown2.2 with ⟨_, h⟩ | ⟨g2, c2, cur2, h1, h2, h3, h4, h5, h6, h7⟩
        · omega
        · exact ⟨g2, c2, cur2, h1, h2, h3, h4, h5, h6, by simpa using h7⟩
      have hrow : ∀ j u, (sNum x)[j]? = some u → w2.cell? ⟨g2, j, none⟩ = some u := fun j u hu => by
        rw [cell_of_row w2 g2 j cur2 _ (0, 0) hh2]
        rw [← ht2, List.getElem?_take] at hu
        split at hu
        · simpa using hu
        · cases hu
      have HROW := hide hrow
      have hg2 : g2 < w2.heap.size := (Array.getElem?_eq_some_iff.1 hh2).1
      subst hv2
      clear hrow hown2 hgrow2 hloc2 hh2 ht2 hc1 hf1
      have hown2 := hide (own_below hown.out hbX)
      have hbl2 := hide (hbl.out.below (rowOk_keeps _) hbX)
      have hz2 := hbX.size
      rw [rounds_succ]
      go_wp2_with (at_builtin; refine wpList_append_any _ rfl (.tmp 55) (.tmp 57) _ rfl (w.heap.size + 1) 36 i0 _ 1 24 Tryz.underlying30 hi hx0 hx1 hx2 rfl (by omega) _ k _ rfl (hown2.out.alloc _) (w2.heap.size + 1) (some ⟨w2.heap.size, 0, none⟩) 1 1 [.slice (some ⟨g2, 0, none⟩) 1 c2] rfl (reads_new w2 36 #[.slice (some ⟨g2, 0, none⟩) 1 c2] 1 1 rfl) (by simp [Value.oneCell']) (by unfold maxLen; omega) (by omega) (by simp; omega) ?_; intro v' w' hown' hgrow hloc)
      go_roundw
      case rel =>
        refine ⟨k + 1, css ++ [[.slice (some ⟨g2, 0, none⟩) 1 c2]], by omega, by go_num, hide (by simpa using hown'), hide ?_, ?_⟩
        · rw [List.take_add_one, HX.out]
          have b1 := hbl2.out.below (rowOk_keeps _) ((Below.refl w2.heap.size w2).alloc (Nat.le_refl _) (.cells #[.slice (some ⟨g2, 0, none⟩) 1 c2] 36))
          refine (b1.snoc rfl ⟨g2, c2, rfl, ⟨by omega, by simp; omega, fun e => ?_⟩, fun j u hu => ?_⟩).grown (rowOk_keeps _) hgrow hloc
          · have := own_lt hown.out g2 e
            omega
          · exact (World.cell?_alloc_lt w2 _ ⟨g2, j, none⟩ hg2).trans (HROW.out j u hu)
        · exact ((hb.trans (hbX.mono (by omega))).alloc (by omega) _).grown hgrow (by simp; omega) (own_ge hown.out)
      case measure => simp [intOf]; omega
    · obtain rfl : k = n := by omega
      obtain ⟨A', c', rfl⟩ := own_slice hown.out
      have hlti : ¬ (k : Int) < k := by omega
      have hbl' := hide (show Built wr (In (w.heap.size + 1) wr.heap.size) 1 (rowOk sNum) css ns from by
        have h := hbl.out
        rw [← HN.out, List.take_length] at h
        exact h.all_ (rowOk_keeps _))
      have hgrid := hide (RdL.of_built hbl'.out hown.out HN.out.symm (fun g _ h1 h2 => ⟨h1, h2⟩))
      clear hbl hbl'
      go_wp2_with (go_at_call 40; refine (Table_any _ A' k c' rfl _).mono ?_; rintro e w1 ⟨rfl, hb1⟩; obtain ⟨hc1, hf1⟩ := bcell hb1)
      have hz1 := hb1.size
      have hbW : Below w.heap.size w wr := (Below.alloc (Below.refl _ _) (Nat.le_refl _) _).trans (hb.mono (by omega))
      have hgrid1 := RdL.below (rowOk_keeps _) hgrid.out hb1
      have q : ∀ o, w1.cell? ⟨w.heap.size, o, none⟩ = #[Value.int .i64 0, .int .i64 0, .int .i64 0, .string ⟨#[]⟩, .slice none 0 0][o]? := fun o => (hc1 _ o zR).trans (cR o)
      have q0 : w1.cell? ⟨w.heap.size, 0, none⟩ = some (.int .i64 0) := q 0
      have q1 : w1.cell? ⟨w.heap.size, 1, none⟩ = some (.int .i64 0) := q 1
      have q2 : w1.cell? ⟨w.heap.size, 2, none⟩ = some (.int .i64 0) := q 2
      have q3 : w1.cell? ⟨w.heap.size, 3, none⟩ = some (.string ⟨#[]⟩) := q 3
      have q4 : w1.cell? ⟨w.heap.size, 4, none⟩ = some (.slice none 0 0) := q 4
      clear q
      refine bodyPost_ret (v := .agg #[.int .i64 5, .int .i64 0, .int .i64 0, .string ⟨#[]⟩, .slice A' k c']) ?_ rfl ⟨A', c', rfl, ?_, ?_⟩
      · simp [results, Tryz.results28, go_sem, q0, q1, q2, q3, q4]
      · refine ((((((hgrid1.setCell (rowOk_keeps _) ?_ _).setCell (rowOk_keeps _) ?_ _).setCell (rowOk_keeps _) ?_ _).setCell (rowOk_keeps _) ?_ _).setCell (rowOk_keeps _) ?_ _).more (rowOk_keeps _) (by omega) ?_)
        all_goals (simp <;> omega)
      · (repeat' (first | (with_reducible exact Below.refl _ _) | (with_reducible assumption) | (with_reducible refine Below.setCell ?_ ?_ _) | (with_reducible refine Below.alloc ?_ ?_ _) | (with_reducible refine Below.drew ?_) | (with_reducible refine below_drewN ?_ _) | (with_reducible refine Below.trans ?_ (Below.mono (by assumption) ?_)) | (simp <;> omega) | omega))
end Go.Proofs.YtjcnnjknhemimaaGreatDoor
