/- Contracts of laws.numbered and laws.column. -/
import Derived.Test.YtjcnnjknhemimaaGreatDoorG3
namespace Go.Proofs.YtjcnnjknhemimaaGreatDoor
open Go Go.RowKit
/-- A value of the reference that is a column, as a call returns it. -/
def ColS (ns : List Int) (w : World) (e : Ending) (w' : World) : Prop := ∃ A c, e = .returned (.agg #[.int .i64 5, .int .i64 0, .int .i64 0, .string ⟨#[]⟩, .slice A ns.length c]) ∧ Grid w' (In w.heap.size w'.heap.size) sNum A ns ∧ Below w.heap.size w w'
theorem items_snoc (ns : List Int) (x : Int) : (ns ++ [x]).flatMap itemCells = ns.flatMap itemCells ++ itemCells x := flatMap_snoc _ _ _
set_option maxRecDepth 100000 in
set_option maxHeartbeats 2000000 in
theorem numbered_any (ns : List Int) (h1 : 1 ≤ ns.length) (h2 : ns.length ≤ 120) (hs : ∀ x ∈ ns, x.natAbs ≤ 9999) (A : Option Addr) (n c : Nat) (hn : ns.length = n) (w : World) (hr : Rd w w.heap.size 1 A n (intCells ns)) :
    Calls Tryz.prog 17 #[.slice A n c, .int .i64 0] w (ColS ns w) := by
  obtain ⟨i0, hi, hx0, hx1, hx2⟩ := info_parts infoItem
  have HR := hide hr
  have HT := hide (fun (A : Option Addr) (c : Nat) (w : World) (hr : Rd w w.heap.size 3 A n (ns.flatMap itemCells)) => table_any ns h1 h2 hs A n c hn w hr)
  have HN := hide hn
  have hn1 : 1 ≤ n := by omega
  have hn2 : n ≤ 120 := by omega
  clear hr hs h1 h2 hn
  go_enter Tryz.func17, Tryz.ntmps17
  go_wp2_with fail
  go_loopw [5, 6] (fun v i wr => ∃ k : Nat, k ≤ n ∧ i = .int .i64 k ∧ Hid (wr.ownsRow (w.heap.size + 1) 62 3 v k ((ns.take k).flatMap itemCells)) ∧ Below (w.heap.size + 1) (w.alloc (.cells #[.int .i64 0, .int .i64 0, .int .i64 0, .string ⟨#[]⟩, .slice none 0 0] 32)) wr) (fun _ i _ => n - (intOf i).toNat)
  case atStart => exact ⟨0, by omega, rfl, hide ⟨by simp, .inl ⟨rfl, rfl⟩⟩, Below.refl _ _⟩
  case round =>
    obtain ⟨k, hk, rfl, hown, hb⟩ := hrel
    obtain ⟨cR, fR, zR⟩ := own_cells hb
    by_cases hlt : k < n
    · obtain ⟨g, x, rfl, hg, hx, h0⟩ : ∃ g x, A = some ⟨g, 0, none⟩ ∧ g < w.heap.size ∧ ns[k]? = some x ∧ wr.cell? ⟨g, k, none⟩ = some (.int .i64 x) := by
        obtain ⟨g, e, hg, hc⟩ := HR.out.2 (by omega)
        obtain ⟨x, hx⟩ : ∃ x, ns[k]? = some x := ⟨_, List.getElem?_eq_getElem (by rw [HN.out]; exact hlt)⟩
        exact ⟨g, x, e, hg, hx, (hb.cell (p := ⟨g, k, none⟩) (by show g < _; omega)).trans ((World.cell?_alloc_lt w _ ⟨g, k, none⟩ hg).trans (hc k _ (by unfold intCells; rw [List.getElem?_map, hx]; rfl)))⟩
      have HX := hide hx
      clear hx
      have hlti : (k : Int) < n := by omega
      have hlti2 : (k : Int) < 120 := by omega
      go_wp2_with (at_builtin; refine wpList_append_any _ rfl (.tmp 17) (.tmp 23) _ rfl (w.heap.size + 1) 62 i0 _ 3 32 Tryz.underlying60 hi hx0 hx1 hx2 rfl (by omega) _ k _ rfl (hown.out.alloc _) (wr.heap.size + 1) (some ⟨wr.heap.size, 0, none⟩) 1 1 (itemCells x) rfl (reads_new wr 62 #[.int .i64 1, .int .i64 x, .string ⟨#[]⟩] 3 1 rfl) (by simp [Value.oneCell', itemCells]) (by unfold maxLen; omega) (by omega) (by simp; omega) ?_; intro v' w' hown' hgrow hloc)
      go_roundw
      case rel =>
        refine ⟨k + 1, by omega, by go_num, hide ?_, ?_⟩
        · rw [List.take_add_one, HX.out]
          simpa [items_snoc] using hown'
        · exact (hb.alloc (by omega) _).grown hgrow (by simp; omega) (own_ge hown.out)
      case measure => simp [intOf]; omega
    · obtain rfl : k = n := by omega
      obtain ⟨A', c', rfl⟩ := own_slice hown.out
      have hlti : decide ((k : Int) < k) = false := decide_eq_false (by omega)
      have hrd := hide (show Rd wr wr.heap.size 3 A' k (ns.flatMap itemCells) from by
        have h := Rd.of_own hown.out
        rwa [← HN.out, List.take_length, HN.out] at h)
      have hbW : Below w.heap.size w wr := (Below.alloc (Below.refl _ _) (Nat.le_refl _) _).trans (hb.mono (by omega))
      go_wp2_with (go_at_call 28; refine (HT.out A' c' _ hrd.out).mono ?_; rintro e w1 ⟨A1, c1, rfl, hgrid, hb1⟩; obtain ⟨hc1, hf1⟩ := bcell hb1)
      have hz1 := hb1.size
      have q : ∀ o, w1.cell? ⟨w.heap.size, o, none⟩ = #[Value.int .i64 0, .int .i64 0, .int .i64 0, .string ⟨#[]⟩, .slice none 0 0][o]? := fun o => (hc1 _ o zR).trans (cR o)
      have q0 : w1.cell? ⟨w.heap.size, 0, none⟩ = some (.int .i64 0) := q 0
      have q1 : w1.cell? ⟨w.heap.size, 1, none⟩ = some (.int .i64 0) := q 1
      have q2 : w1.cell? ⟨w.heap.size, 2, none⟩ = some (.int .i64 0) := q 2
      have q3 : w1.cell? ⟨w.heap.size, 3, none⟩ = some (.string ⟨#[]⟩) := q 3
      have q4 : w1.cell? ⟨w.heap.size, 4, none⟩ = some (.slice none 0 0) := q 4
      clear q
      refine bodyPost_ret (v := .agg #[.int .i64 5, .int .i64 0, .int .i64 0, .string ⟨#[]⟩, .slice A1 k c1]) ?_ rfl ⟨A1, c1, by rw [HN.out], ?_, ?_⟩
      · simp [results, Tryz.results17, go_sem, q0, q1, q2, q3, q4]
      · refine (RdL.more (rowOk_keeps _) (RdL.setCell (rowOk_keeps _) (RdL.setCell (rowOk_keeps _) (RdL.setCell (rowOk_keeps _) (RdL.setCell (rowOk_keeps _) (RdL.setCell (rowOk_keeps _) hgrid ?_ _) ?_ _) ?_ _) ?_ _) ?_ _) (by omega) ?_)
        all_goals (simp <;> omega)
      · (repeat' (first | (with_reducible exact Below.refl _ _) | (with_reducible assumption) | (with_reducible refine Below.setCell ?_ ?_ _) | (with_reducible refine Below.alloc ?_ ?_ _) | (with_reducible refine Below.drew ?_) | (with_reducible refine below_drewN ?_ _) | (with_reducible refine Below.trans ?_ (Below.mono (by assumption) ?_)) | (simp <;> omega) | omega))
set_option maxRecDepth 100000 in
theorem column_any (ns : List Int) (h1 : 1 ≤ ns.length) (h2 : ns.length ≤ 120) (hs : ∀ x ∈ ns, x.natAbs ≤ 9999) (A : Option Addr) (n c : Nat) (hn : ns.length = n) (w : World) (hr : Rd w w.heap.size 1 A n (intCells ns)) :
    Calls Tryz.prog 7 #[.slice A n c] w (ColS ns w) := by
  have HC := hide (numbered_any ns h1 h2 hs A n c hn _ ((hr.alloc (Nat.le_refl _) (.cells #[.int .i64 0, .int .i64 0, .int .i64 0, .string ⟨#[]⟩, .slice none 0 0] 32)).more (by simp)))
  have HN := hide hn
  clear hr hs h1 h2 hn
  go_enter Tryz.func7, Tryz.ntmps7
  go_wp2_with (go_at_call 17; refine HC.out.mono ?_; rintro e w1 ⟨A1, c1, rfl, hgrid, hb1⟩; rw [HN.out]; obtain ⟨hc1, hf1⟩ := bcell hb1)
  have hz1 : w.heap.size < w1.heap.size := by (have := hb1.size; simp at this; omega)
  refine bodyPost_ret (v := .agg #[.int .i64 5, .int .i64 0, .int .i64 0, .string ⟨#[]⟩, .slice A1 n c1]) ?_ rfl ⟨A1, c1, by rw [HN.out], ?_, ?_⟩
  · simp [results, Tryz.results7, go_sem, hc1]
  · refine (RdL.more (rowOk_keeps _) (RdL.setCell (rowOk_keeps _) (RdL.setCell (rowOk_keeps _) (RdL.setCell (rowOk_keeps _) (RdL.setCell (rowOk_keeps _) (RdL.setCell (rowOk_keeps _) hgrid ?_ _) ?_ _) ?_ _) ?_ _) ?_ _) (by simp) ?_)
    all_goals (simp <;> omega)
  · (repeat' (first | (with_reducible exact Below.refl _ _) | (with_reducible assumption) | (with_reducible refine Below.setCell ?_ ?_ _) | (with_reducible refine Below.alloc ?_ ?_ _) | (with_reducible refine Below.drew ?_) | (with_reducible refine below_drewN ?_ _) | (with_reducible refine Below.trans ?_ (Below.mono (by assumption) ?_)) | (simp <;> omega) | omega))
end Go.Proofs.YtjcnnjknhemimaaGreatDoor
