/- The walks of laws.FnAnd and laws.FnAndNumbers: true, whatever the list. -/
import Derived.Test.YtemeamckdfnlfaaGreatDoorA6
import Derived.Test.YtemeamckdfnlfaaGreatDoorMk
namespace Go.Proofs.YtemeamckdfnlfaaGreatDoor
open Go Go.RowKit
/-- A slice of cells, one an element, anywhere in a block of the old memory. -/
def Row1 (w : World) (A : Option Addr) (n : Nat) (f : Nat → Value) : Prop := 0 < n → ∃ b off, A = some ⟨b, off, none⟩ ∧ b < w.heap.size ∧ ∀ j, j < n → w.cell? ⟨b, off + j, none⟩ = some (f j)
def truthV (b : Bool) : V := ⟨3, b2i b, 0, ⟨#[]⟩⟩
theorem cells_range (g : Nat → V) (k : Nat) : cellsV ((List.range (k + 1)).map g) = cellsV ((List.range k).map g) ++ (g k).cells := by
  rw [List.range_succ, List.map_append, List.map_cons, List.map_nil, cellsV_snoc]
set_option maxRecDepth 100000 in
set_option maxHeartbeats 1000000 in
theorem argTruths_any (f : Nat → Bool) (A : Option Addr) (n c : Nat) (hn : n ≤ 30) (w : World) (hr : Row1 w A n fun j => .bool (f j)) :
    Calls Tryz.prog 14 #[.slice A n c] w fun e w' => ∃ A' c', e = .returned (.slice A' n c') ∧ w'.ownsRow w.heap.size 27 5 (.slice A' n c') n (cellsV ((List.range n).map fun j => truthV (f j))) ∧ Below w.heap.size w w' := by
  obtain ⟨i0, hi, hz0, hz1, hz2⟩ := info_parts info27
  have HR := hide hr
  clear hr
  go_enter Tryz.func14, Tryz.ntmps14
  go_wp2_with fail
  go_loopw [3, 4] (fun v i wr => ∃ k : Nat, k ≤ n ∧ i = .int .i64 k ∧ Hid (wr.ownsRow w.heap.size 27 5 v k (cellsV ((List.range k).map fun j => truthV (f j)))) ∧ Below w.heap.size w wr) (fun _ i _ => n - (intOf i).toNat)
  case atStart => exact ⟨0, by omega, rfl, hide ⟨by simp [cellsV], .inl ⟨rfl, rfl⟩⟩, Below.refl _ _⟩
  case round =>
    obtain ⟨k, hk, rfl, hown, hb⟩ := hrel
    by_cases hlt : k < n
    · obtain ⟨g, off, rfl, hg, hcell⟩ := HR.out (by omega)
      have h0 := (hb.cell (p := ⟨g, off + k, none⟩) hg).trans (hcell k hlt)
      obtain ⟨b, hfb⟩ : ∃ b, f k = b := ⟨_, rfl⟩
      simp only [hfb] at h0
      have HFb := hide hfb
      have hz := hb.size
      clear hcell hfb
      go_wp2_with (first
        | (go_at_call 26; refine (bool_any _ _).mono ?_; rintro e w1 ⟨rfl, hb1⟩; have hs1 := hb1.size)
        | (at_builtin; refine wpList_append_any _ rfl (.tmp 11) (.tmp 17) _ rfl w.heap.size 27 i0 _ 5 64 Tryz.underlying29 hi hz0 hz1 hz2 rfl (by omega) _ k _ rfl ((own_below (hown.out) hb1).alloc _) (w1.heap.size + 1) (some ⟨w1.heap.size, 0, none⟩) 1 1 [.int .i64 3, .int .i64 (b2i b), .int .i64 0, .string ⟨#[]⟩, .slice none 0 0] rfl (reads_new w1 27 #[.int .i64 3, .int .i64 (b2i b), .int .i64 0, .string ⟨#[]⟩, .slice none 0 0] 5 1 rfl) (by simp [Value.oneCell']) (by unfold maxLen; omega) (by omega) (by simp; omega) ?_; intro v' w' hown' hgrow hloc))
      go_roundw
      case rel =>
        refine ⟨k + 1, by omega, by go_num, hide ?_, ?_⟩
        · rw [cells_range, HFb.out]
          simpa [truthV, V.cells] using hown'
        · exact ((hb.trans (hb1.mono hz)).alloc (by omega) _).grown hgrow (by simp; omega) (own_ge hown.out)
      case measure => simp [intOf]; omega
    · obtain rfl : k = n := by omega
      go_wp2_with fail
      go_ret
      obtain ⟨A', c', rfl⟩ := own_slice hown.out
      exact ⟨A', c', rfl, hown.out, hb⟩
set_option maxRecDepth 100000 in
set_option maxHeartbeats 1000000 in
theorem argWholes_any (f : Nat → Int) (A : Option Addr) (n c : Nat) (hn : n ≤ 30) (w : World) (hr : Row1 w A n fun j => .int .i64 (f j)) :
    Calls Tryz.prog 15 #[.slice A n c] w fun e w' => ∃ A' c', e = .returned (.slice A' n c') ∧ w'.ownsRow w.heap.size 27 5 (.slice A' n c') n (cellsV ((List.range n).map fun j => wholeV (f j))) ∧ Below w.heap.size w w' := by
  obtain ⟨i0, hi, hz0, hz1, hz2⟩ := info_parts info27
  have HR := hide hr
  clear hr
  go_enter Tryz.func15, Tryz.ntmps15
  go_wp2_with fail
  go_loopw [3, 4] (fun v i wr => ∃ k : Nat, k ≤ n ∧ i = .int .i64 k ∧ Hid (wr.ownsRow w.heap.size 27 5 v k (cellsV ((List.range k).map fun j => wholeV (f j)))) ∧ Below w.heap.size w wr) (fun _ i _ => n - (intOf i).toNat)
  case atStart => exact ⟨0, by omega, rfl, hide ⟨by simp [cellsV], .inl ⟨rfl, rfl⟩⟩, Below.refl _ _⟩
  case round =>
    obtain ⟨k, hk, rfl, hown, hb⟩ := hrel
    by_cases hlt : k < n
    · obtain ⟨g, off, rfl, hg, hcell⟩ := HR.out (by omega)
      have h0 := (hb.cell (p := ⟨g, off + k, none⟩) hg).trans (hcell k hlt)
      obtain ⟨b, hfb⟩ : ∃ b, f k = b := ⟨_, rfl⟩
      simp only [hfb] at h0
      obtain ⟨⟨vk, vn, vd, vt⟩, hw⟩ : ∃ v, wholeV b = v := ⟨_, rfl⟩
      have HN : Hid (∀ w, Calls Tryz.prog 25 #[.int .i64 b] w fun e w' => e = .returned (.agg #[.int .i64 vk, .int .i64 vn, .int .i64 vd, .string vt, .slice none 0 0]) ∧ Below w.heap.size w w') := by
        have := argWhole_any b
        rw [hw] at this
        exact hide this
      have HFb : Hid (wholeV (f k) = ⟨vk, vn, vd, vt⟩) := hide (by rw [hfb, hw])
      have hz := hb.size
      clear hcell hfb hw
      go_wp2_with (first
        | (go_at_call 25; refine (HN.out _).mono ?_; rintro e w1 ⟨rfl, hb1⟩; have hs1 := hb1.size)
        | (at_builtin; refine wpList_append_any _ rfl (.tmp 11) (.tmp 17) _ rfl w.heap.size 27 i0 _ 5 64 Tryz.underlying29 hi hz0 hz1 hz2 rfl (by omega) _ k _ rfl ((own_below (hown.out) hb1).alloc _) (w1.heap.size + 1) (some ⟨w1.heap.size, 0, none⟩) 1 1 [.int .i64 vk, .int .i64 vn, .int .i64 vd, .string vt, .slice none 0 0] rfl (reads_new w1 27 #[.int .i64 vk, .int .i64 vn, .int .i64 vd, .string vt, .slice none 0 0] 5 1 rfl) (by simp [Value.oneCell']) (by unfold maxLen; omega) (by omega) (by simp; omega) ?_; intro v' w' hown' hgrow hloc))
      go_roundw
      case rel =>
        refine ⟨k + 1, by omega, by go_num, hide ?_, ?_⟩
        · rw [cells_range, HFb.out]
          simpa [V.cells] using hown'
        · exact ((hb.trans (hb1.mono hz)).alloc (by omega) _).grown hgrow (by simp; omega) (own_ge hown.out)
      case measure => simp [intOf]; omega
    · obtain rfl : k = n := by omega
      go_wp2_with fail
      go_ret
      obtain ⟨A', c', rfl⟩ := own_slice hown.out
      exact ⟨A', c', rfl, hown.out, hb⟩
theorem truth_ok (b : Bool) : AndOk (truthV b) := ⟨empty_small, .inl ⟨rfl, by cases b <;> simp [truthV, b2i]⟩⟩
theorem whole_ok (n : Int) : AndOk (wholeV n) := by
  unfold wholeV
  split
  · exact ⟨empty_small, .inr (.inr rfl)⟩
  · exact ⟨empty_small, .inr (.inl ⟨rfl, rfl, by simp only; omega⟩)⟩
set_option maxRecDepth 100000 in
theorem fnAnd_any (f : Nat → Bool) (A : Option Addr) (n c : Nat) (hmax : n ≤ 9223372036854775807) (w : World) (hr : Row1 w A n fun j => .bool (f j)) : Calls Tryz.prog 5 #[.slice A n c] w fun e w' => e = .returned (.bool true) ∧ Below w.heap.size w w' := by
  by_cases h1 : n ≤ 30
  · have HM := hide (argTruths_any f A n c h1 w hr)
    clear hr
    go_enter Tryz.func5, Tryz.ntmps5
    go_wp2_with fail
    refine HM.out.mono ?_
    rintro e w1 ⟨A1, c1, rfl, hown, hb1⟩
    have HR := hide (Rd.of_own hown)
    clear hown HM
    go_wp2_with fail
    refine (agrees_AND _ (fun v hv => by obtain ⟨j, -, rfl⟩ := List.mem_map.1 hv; exact truth_ok _) A1 n c1 h1 _ HR.out).mono ?_
    rintro e w2 ⟨rfl, hb2⟩
    have hb02 : Below w.heap.size w w2 := hb1.trans (hb2.mono hb1.size)
    clear hb1 hb2 HR
    go_wp2_with fail
    go_ret
    exact ⟨rfl, hb02⟩
  · by_cases h2 : n ≤ 2147483647
    all_goals
      go_enter Tryz.func5, Tryz.ntmps5
      go_wp2_with fail
      go_ret
      exact ⟨rfl, by (repeat' (first | (with_reducible exact Below.refl _ _) | (with_reducible assumption) | (with_reducible refine Below.setCell ?_ ?_ _) | (with_reducible refine Below.alloc ?_ ?_ _) | (with_reducible refine Below.drew ?_) | (with_reducible refine below_drewN ?_ _) | (with_reducible refine Below.trans ?_ (Below.mono (by assumption) ?_)) | (simp <;> omega) | omega))⟩
set_option maxRecDepth 100000 in
theorem fnAndNumbers_any (f : Nat → Int) (A : Option Addr) (n c : Nat) (hmax : n ≤ 9223372036854775807) (w : World) (hr : Row1 w A n fun j => .int .i64 (f j)) : Calls Tryz.prog 6 #[.slice A n c] w fun e w' => e = .returned (.bool true) ∧ Below w.heap.size w w' := by
  by_cases h1 : n ≤ 30
  · have HM := hide (argWholes_any f A n c h1 w hr)
    clear hr
    go_enter Tryz.func6, Tryz.ntmps6
    go_wp2_with fail
    refine HM.out.mono ?_
    rintro e w1 ⟨A1, c1, rfl, hown, hb1⟩
    have HR := hide (Rd.of_own hown)
    clear hown HM
    go_wp2_with fail
    refine (agrees_AND _ (fun v hv => by obtain ⟨j, -, rfl⟩ := List.mem_map.1 hv; exact whole_ok _) A1 n c1 h1 _ HR.out).mono ?_
    rintro e w2 ⟨rfl, hb2⟩
    have hb02 : Below w.heap.size w w2 := hb1.trans (hb2.mono hb1.size)
    clear hb1 hb2 HR
    go_wp2_with fail
    go_ret
    exact ⟨rfl, hb02⟩
  · by_cases h2 : n ≤ 2147483647
    all_goals
      go_enter Tryz.func6, Tryz.ntmps6
      go_wp2_with fail
      go_ret
      exact ⟨rfl, by (repeat' (first | (with_reducible exact Below.refl _ _) | (with_reducible assumption) | (with_reducible refine Below.setCell ?_ ?_ _) | (with_reducible refine Below.alloc ?_ ?_ _) | (with_reducible refine Below.drew ?_) | (with_reducible refine below_drewN ?_ _) | (with_reducible refine Below.trans ?_ (Below.mono (by assumption) ?_)) | (simp <;> omega) | omega))⟩
end Go.Proofs.YtemeamckdfnlfaaGreatDoor
