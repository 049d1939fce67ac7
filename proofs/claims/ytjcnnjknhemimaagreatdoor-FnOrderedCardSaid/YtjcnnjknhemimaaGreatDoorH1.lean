/- Contracts of the formula machine's ToList of a column, ToNumber of a number, and list.List's Back. -/
import Derived.Test.YtjcnnjknhemimaaGreatDoorG9
import Derived.Test.YtjcnnjknhemimaaGreatDoorD4
import Derived.Test.YtjcnnjknhemimaaGreatDoorB3
namespace Go.Proofs.YtjcnnjknhemimaaGreatDoor
open Go Go.RowKit Ieee Fl
attribute [local go_sem] run_store_float
theorem numOf_word (n : Int) : numOf (word n) = word n := by
  rw [word_eq]
  unfold word0
  split
  · unfold numOf
    split <;> rfl
  · rename_i h
    unfold numOf
    rw [if_neg h]
theorem word_refl (n : Int) (h : n.natAbs ≤ 99999999999) : FloatKind.f64.format.order (word n) (word n) = some .eq := by
  have h1 : FloatKind.f64.format.order (word n) (word n) = some (compare n n) := order_is (word_is n h) (word_is n h)
  rw [h1]
  simp
theorem newNum_word (n : Int) (h : n.natAbs ≤ 99999999999) (w : World) : Calls Tryz.prog 47 #[.float .f64 (word n)] w fun e w' =>
    e = .returned (.agg #[.string ⟨#[]⟩, .float .f64 (word n), .string ⟨#[]⟩, .slice none 0 0, .slice none 0 0, .bool false, .string ⟨#[]⟩, .int .u8 1, .pointer none, .pointer none]) ∧ Below w.heap.size w w' := by
  refine (newNumber_any (word n) (word_refl n h) w).mono ?_
  rintro e w' ⟨rfl, hb⟩
  rw [numOf_word]
  exact ⟨rfl, hb⟩
theorem toNumber_num (n : Int) (h : n.natAbs ≤ 99999999999) (w : World) : Calls Tryz.prog 43 #[.agg #[.string ⟨#[]⟩, .float .f64 (word n), .string ⟨#[]⟩, .slice none 0 0, .slice none 0 0, .bool false, .string ⟨#[]⟩, .int .u8 1, .pointer none, .pointer none]] w fun e w' =>
    e = .returned (.agg #[.string ⟨#[]⟩, .float .f64 (word n), .string ⟨#[]⟩, .slice none 0 0, .slice none 0 0, .bool false, .string ⟨#[]⟩, .int .u8 1, .pointer none, .pointer none]) ∧ Below w.heap.size w w' := by
  go_enter Tryz.func43, Tryz.ntmps43
  go_wp2_with (go_at_call 47; refine (newNum_word n h _).mono ?_; rintro e w1 ⟨rfl, hb⟩; obtain ⟨hc, hf⟩ := bcell hb; have hz : w.heap.size + 1 < w1.heap.size := by (have := hb.size; simp at this; omega))
  refine bodyPost_ret (v := .agg #[.string ⟨#[]⟩, .float .f64 (word n), .string ⟨#[]⟩, .slice none 0 0, .slice none 0 0, .bool false, .string ⟨#[]⟩, .int .u8 1, .pointer none, .pointer none]) ?_ rfl ⟨rfl, ?_⟩
  · simp [results, Tryz.results43, go_sem, hc]
  · (repeat' (first | (with_reducible exact Below.refl _ _) | (with_reducible assumption) | (with_reducible refine Below.setCell ?_ ?_ _) | (with_reducible refine Below.alloc ?_ ?_ _) | (with_reducible refine Below.drew ?_) | (with_reducible refine below_drewN ?_ _) | (with_reducible refine Below.trans ?_ (Below.mono (by assumption) ?_)) | (simp <;> omega) | omega))
theorem back_any (L E : Nat) (n : Int) (hn : n ≠ 0) (w : World) (h : w.cell? ⟨L, 4, none⟩ = some (.int .i64 n)) (h1 : w.cell? ⟨L, 1, none⟩ = some (.pointer (some ⟨E, 0, none⟩))) : Calls Tryz.prog 51 #[.pointer (some ⟨L, 0, none⟩)] w fun e w' => e = .returned (.pointer (some ⟨E, 0, none⟩)) ∧ w = w' := by
  go_enter Tryz.func51, Tryz.ntmps51
  go_wp2_with fail
  go_ret
  exact ⟨rfl, rfl⟩
theorem fNum_len (n : Int) : (fNum n).length = 10 := rfl
theorem fNums_snoc (ns : List Int) (x : Int) : (ns ++ [x]).flatMap fNum = ns.flatMap fNum ++ fNum x := flatMap_snoc _ _ _
set_option maxRecDepth 100000 in
set_option maxHeartbeats 2000000 in
theorem toList_col (ns : List Int) (A : Option Addr) (n c L1 L2 lo hi : Nat) (hn : ns.length = n) (hn2 : n ≤ 40) (w : World) (hhi : hi ≤ w.heap.size) (hr : Grid w (In lo hi) fNum A ns) :
    Calls Tryz.prog 44 #[.agg #[.string ⟨#[]⟩, .float .f64 0, .string ⟨#[]⟩, .slice none 0 0, .slice A n c, .bool false, .string ⟨#[]⟩, .int .u8 4, .pointer (some ⟨L1, 0, none⟩), .pointer (some ⟨L2, 0, none⟩)]] w fun e w' =>
      ∃ A' c', e = .returned (.slice A' n c') ∧ w'.ownsRow w.heap.size 55 10 (.slice A' n c') n (ns.flatMap fNum) ∧ Below w.heap.size w w' := by
  obtain ⟨j0, hj, hy0, hy1, hy2⟩ := info_parts infoF
  have HR := hide hr
  have HN := hide hn
  clear hr hn
  go_enter Tryz.func44, Tryz.ntmps44
  go_wp2_with fail
  go_loopw [3, 13] (fun v i wr => ∃ k : Nat, k ≤ n ∧ i = .int .i64 k ∧ Hid (wr.ownsRow (w.heap.size + 1) 55 10 v k ((ns.take k).flatMap fNum)) ∧ Below w.heap.size w wr ∧ w.heap.size < wr.heap.size) (fun _ i _ => n - (intOf i).toNat)
  case atStart => exact ⟨0, by omega, rfl, hide ⟨by simp, .inl ⟨rfl, rfl⟩⟩, by (repeat' (first | (with_reducible exact Below.refl _ _) | (with_reducible assumption) | (with_reducible refine Below.setCell ?_ ?_ _) | (with_reducible refine Below.alloc ?_ ?_ _) | (with_reducible refine Below.drew ?_) | (with_reducible refine below_drewN ?_ _) | (with_reducible refine Below.trans ?_ (Below.mono (by assumption) ?_)) | (simp <;> omega) | omega)), by simp⟩
  case round =>
    obtain ⟨k, hk, rfl, hown, hb, hzz⟩ := hrel
    by_cases hlt : k < n
    · obtain ⟨y, hy⟩ : ∃ y, ns[k]? = some y := ⟨_, List.getElem?_eq_getElem (by rw [HN.out]; exact hlt)⟩
      obtain ⟨g, b, cb, rfl, hg, hbb, h0, hrow⟩ := Grid.at_ (RdL.below (rowOk_keeps _) HR.out (hb.mono hhi)) hy
      have hread := hide (show Reads wr wr.heap.size 10 (some ⟨b, 0, none⟩) 1 (fNum y) from ⟨rfl, fun _ => ⟨_, rfl, by show b < _; have := hbb.2; omega, fun j u hu => by rw [Addr.add_lit, Nat.zero_add]; exact hrow j u hu⟩⟩)
      have HY := hide hy
      clear hy hrow
      have hlti : (k : Int) < n := by omega
      go_wp2_with (at_builtin; refine wpList_append_any _ rfl (.tmp 17) (.tmp 18) _ rfl (w.heap.size + 1) 55 j0 _ 10 136 Tryz.underlying50 hj hy0 hy1 hy2 rfl (by omega) _ k _ rfl hown.out wr.heap.size (some ⟨b, 0, none⟩) 1 cb (fNum y) rfl hread.out (by simp [Value.oneCell', fNum]) (by unfold maxLen; omega) (by omega) (by omega) ?_; intro v' w' hown' hgrow hloc)
      go_roundw
      case rel =>
        refine ⟨k + 1, by omega, by go_num, hide ?_, ?_, Nat.lt_of_lt_of_le hzz hgrow.size⟩
        · rw [List.take_add_one, HY.out]
          simpa [fNums_snoc] using hown'
        · exact hb.grown hgrow (by omega) (fun q e => by have := own_ge hown.out q e; omega)
      case measure => simp [intOf]; omega
    · obtain rfl : k = n := by omega
      have hlti : ¬ (k : Int) < k := by omega
      go_wp2_with fail
      go_ret
      obtain ⟨A', c', rfl⟩ := own_slice hown.out
      refine ⟨A', c', rfl, ?_, hb⟩
      have h := hown.out
      rw [← HN.out, List.take_length, HN.out] at h
      refine ⟨h.1, ?_⟩
      rcases h.2 with h0 | ⟨g, cap, cur, hv, hg, hr⟩
      · exact .inl h0
      · exact .inr ⟨g, cap, cur, hv, by omega, hr⟩
end Go.Proofs.YtjcnnjknhemimaaGreatDoor
