/- Contract of laws.tiny: small numbers, of whatever list came in. -/
import Derived.Test.YtjcnnjknhemimaaGreatDoorL1
import Derived.Test.YtjcnnjknhemimaaGreatDoorL3
import Derived.Test.YtjcnnjknhemimaaGreatDoorG1
namespace Go.Proofs.YtjcnnjknhemimaaGreatDoor
open Go Go.RowKit
/-- A slice of cells, one an element, anywhere in a block of the old memory. -/
def Row1 (w : World) (A : Option Addr) (n : Nat) (f : Nat → Value) : Prop := 0 < n → ∃ b off, A = some ⟨b, off, none⟩ ∧ b < w.heap.size ∧ ∀ j, j < n → w.cell? ⟨b, off + j, none⟩ = some (f j)
def intCells (ns : List Int) : List Value := ns.map (Value.int .i64)
theorem info3 : (Tryz.prog.info? 3).map (fun i => (i.zero, i.size, i.bytes)) = some (some (.int .i64 0), 1, 8) := by kernel_rfl
theorem tmod_small (x : Int) : (x.tmod 10000).natAbs ≤ 9999 := by
  rw [Int.natAbs_tmod]
  exact Nat.le_of_lt_succ (Nat.mod_lt _ (by decide))
theorem tmod_wrap (x : Int) : IntKind.i64.wrap (x.tmod 10000) = x.tmod 10000 := by
  have := tmod_small x
  exact IntWalk.i64_in _ (by omega)
set_option maxRecDepth 100000 in
set_option maxHeartbeats 1000000 in
theorem tiny_any (f : Nat → Int) (A : Option Addr) (n c : Nat) (hn : n ≤ 2147483647) (w : World) (hr : Row1 w A n fun j => .int .i64 (f j)) :
    Calls Tryz.prog 4 #[.slice A n c] w fun e w' => ∃ ns A' m c', e = .returned (.slice A' m c') ∧ ns.length = m ∧ m = min n 120 ∧ (∀ x ∈ ns, x.natAbs ≤ 9999) ∧ w'.ownsRow w.heap.size 3 1 (.slice A' m c') m (intCells ns) ∧ Below w.heap.size w w' := by
  obtain ⟨i0, hi, hz0, hz1, hz2⟩ := info_parts info3
  have HR := hide hr
  clear hr
  go_enter Tryz.func4, Tryz.ntmps4
  go_wp2_with fail
  go_loopw [3, 4] (fun v i wr => ∃ (k : Nat) (ns : List Int), k ≤ n ∧ k ≤ 120 ∧ i = .int .i64 k ∧ ns.length = k ∧ Hid (∀ x ∈ ns, x.natAbs ≤ 9999) ∧ Hid (wr.ownsRow w.heap.size 3 1 v k (intCells ns)) ∧ Below w.heap.size w wr) (fun _ i _ => n - (intOf i).toNat)
  case atStart => exact ⟨0, [], by omega, by omega, rfl, rfl, hide (by simp), hide ⟨by simp [intCells], .inl ⟨rfl, rfl⟩⟩, Below.refl _ _⟩
  case round =>
    obtain ⟨k, ns, hk, hk2, rfl, hl, hs, hown, hb⟩ := hrel
    by_cases hlt : k < n ∧ k < 120
    · obtain ⟨hlt, hlt2⟩ := hlt
      obtain ⟨g, off, rfl, hg, hcell⟩ := HR.out (by omega)
      have h0 := (hb.cell (p := ⟨g, off + k, none⟩) hg).trans (hcell k hlt)
      obtain ⟨b, hfb⟩ : ∃ b, f k = b := ⟨_, rfl⟩
      simp only [hfb] at h0
      have hz := hb.size
      have hlti : (k : Int) < n := by omega
      have hlti2 : (k : Int) < 120 := by omega
      have HL := hide hl
      clear hcell hfb hl
      go_wp2_with (at_builtin; refine wpList_append_any _ rfl (.tmp 15) (.tmp 21) _ rfl w.heap.size 3 i0 _ 1 8 Tryz.underlying22 hi hz0 hz1 hz2 rfl (by omega) _ k _ rfl (hown.out.alloc _) (wr.heap.size + 1) (some ⟨wr.heap.size, 0, none⟩) 1 1 [.int .i64 (b.tmod 10000)] rfl (reads_new wr 3 #[.int .i64 (b.tmod 10000)] 1 1 rfl) (by simp [Value.oneCell']) (by unfold maxLen; omega) (by omega) (by simp; omega) ?_; intro v' w' hown' hgrow hloc)
      go_roundw
      case rel =>
        refine ⟨k + 1, ns ++ [b.tmod 10000], by omega, by omega, by go_num, by simp [HL.out], hide ?_, hide ?_, ?_⟩
        · intro x hx
          rcases List.mem_append.1 hx with h | h
          · exact hs.out x h
          · rw [List.mem_singleton.1 h]; exact tmod_small b
        · simpa [intCells] using hown'
        · exact (hb.alloc hz _).grown hgrow (by simp; omega) (own_ge hown.out)
      case measure => simp [intOf]; omega
    · have hend := hide (show k = min n 120 by omega)
      obtain ⟨A', c', rfl⟩ := own_slice hown.out
      rcases Nat.lt_or_ge k n with h1 | h1
      · have hlti : (k : Int) < n := by omega
        have hlti2 : decide ((k : Int) < 120) = false := decide_eq_false (by omega)
        have HL := hide hl
        clear hl
        go_wp2_with fail
        go_ret
        exact ⟨ns, A', k, c', rfl, HL.out, hend.out, hs.out, hown.out, hb⟩
      · have hlti : decide ((k : Int) < n) = false := decide_eq_false (by omega)
        have HL := hide hl
        clear hl
        go_wp2_with fail
        go_ret
        exact ⟨ns, A', k, c', rfl, HL.out, hend.out, hs.out, hown.out, hb⟩
end Go.Proofs.YtjcnnjknhemimaaGreatDoor
