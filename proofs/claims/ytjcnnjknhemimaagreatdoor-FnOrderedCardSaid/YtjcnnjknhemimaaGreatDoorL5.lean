/- Contracts of the thin package's conversions: impl.in, impl.out. -/
import Derived.Test.YtjcnnjknhemimaaGreatDoorL1
namespace Go.Proofs.YtjcnnjknhemimaaGreatDoor
open Go Go.RowKit
attribute [local go_sem] run_store_float
theorem own_below {w w' : World} {base : Nat} {e : TypeId} {size n : Nat} {v : Value} {xs : List Value} (h : w.ownsRow base e size v n xs) (hb : Below w.heap.size w w') : w'.ownsRow base e size v n xs := by
  refine ⟨h.1, ?_⟩
  rcases h.2 with h0 | ⟨g, cap, cur, hv, hg, hh, hr⟩
  · exact .inl h0
  · exact .inr ⟨g, cap, cur, hv, hg, (hb.block g (Array.getElem?_eq_some_iff.1 hh).1).trans hh, hr⟩
theorem reads_new_at (w : World) (g : Nat) (hg : w.heap.size = g) (t : TypeId) (cs : Array Value) (size n : Nat) (h : cs.size = n * size) : Reads (w.alloc (.cells cs t)) (g + 1) size (some ⟨g, 0, none⟩) n cs.toList := by
  subst hg
  exact reads_new w t cs size n h
set_option maxRecDepth 100000 in
set_option maxHeartbeats 1000000 in
theorem in_any (vs : List I) (A : Option Addr) (n c : Nat) (hn : n ≤ 1000) (w : World) (hr : Rd w w.heap.size 4 A n (cellsI vs)) :
    Calls Tryz.prog 16 #[.slice A n c] w fun e w' => ∃ A' c', e = .returned (.slice A' n c') ∧ w'.ownsRow w.heap.size 42 4 (.slice A' n c') n (cellsI vs) ∧ Below w.heap.size w w' := by
  obtain ⟨i0, hi, hz0, hz1, hz2⟩ := info_parts info53
  have HR := hide hr
  have hl : vs.length = n := by have := hr.1; rw [cellsI_length] at this; omega
  clear hr
  go_enter Tryz.func16, Tryz.ntmps16
  go_wp2_with fail
  go_loopw [3, 11] (fun v i wr => ∃ k : Nat, k ≤ n ∧ i = .int .i64 k ∧ Hid (wr.ownsRow w.heap.size 42 4 v k (cellsI (vs.take k))) ∧ Below w.heap.size w wr) (fun _ i _ => n - (intOf i).toNat)
  case atStart => exact ⟨0, by omega, rfl, hide ⟨by simp [cellsI], .inl ⟨rfl, rfl⟩⟩, Below.refl _ _⟩
  case round =>
    obtain ⟨k, hk, rfl, hown, hb⟩ := hrel
    by_cases hlt : k < n
    · obtain ⟨g, kk, x, t, rfl, hg, hv, h0, h1, h2, h3⟩ := rdI (HR.out.below hb) k hlt
      have hz := hb.size
      have HV := hide hv
      clear hv
      go_wp2_with fail
      refine wp_loop_once ?_
      go_wp2_with (at_builtin; refine wpList_append_any _ rfl (.tmp 37) (.tmp 39) _ rfl w.heap.size 42 i0 _ 4 56 Tryz.underlying44 hi hz0 hz1 hz2 rfl (by omega) _ k _ rfl (((hown.out.alloc _).alloc _).alloc _) (wr.heap.size + 3) (some ⟨wr.heap.size + 2, 0, none⟩) 1 1 [.int .i64 kk, .float .f64 x, .string t, .slice none 0 0] rfl (reads_new_at ((wr.alloc _).alloc _) (wr.heap.size + 2) (by simp) 42 #[.int .i64 kk, .float .f64 x, .string t, .slice none 0 0] 4 1 rfl) (by simp [Value.oneCell']) (by unfold maxLen; omega) (by omega) (by simp; omega) ?_; intro v' w' hown' hgrow hloc)
      go_roundw
      case rel => 
        refine ⟨k + 1, by omega, by go_num, hide ?_, ?_⟩
        · rw [List.take_add_one, HV.out]
          simpa [cellsI_snoc, I.cells] using hown'
        · exact (((hb.alloc hz _).alloc (by simp; omega) _).alloc (by simp; omega) _).grown hgrow (by simp; omega) (own_ge hown.out)
      case measure => simp [intOf]; omega
    · obtain rfl : k = n := by omega
      go_wp2_with fail
      go_ret
      obtain ⟨A', c', rfl⟩ := own_slice hown.out
      refine ⟨A', c', rfl, ?_, hb⟩
      have e : vs.take vs.length = vs := List.take_length
      have h' := hown.out
      rwa [← hl, e, hl] at h'
theorem out_any (k : Int) (x : Nat) (t : ByteArray) (w : World) :
    Calls Tryz.prog 14 #[.agg #[.int .i64 k, .float .f64 x, .string t, .slice none 0 0]] w fun e w' => e = .returned (.agg #[.int .i64 k, .float .f64 x, .string t, .slice none 0 0]) ∧ Below w.heap.size w w' := by
  go_enter Tryz.func14, Tryz.ntmps14
  go_wp2_with fail
  refine wp_loop_once ?_
  go_wp2_with fail
  refine bodyPost_ret (v := .agg #[.int .i64 k, .float .f64 x, .string t, .slice none 0 0]) ?_ rfl ⟨rfl, ?_⟩
  · simp [results, Tryz.results14, go_sem]
  · (repeat' (first | (with_reducible exact Below.refl _ _) | (with_reducible assumption) | (with_reducible refine Below.setCell ?_ ?_ _) | (with_reducible refine Below.alloc ?_ ?_ _) | (with_reducible refine Below.drew ?_) | (with_reducible refine below_drewN ?_ _) | (with_reducible refine Below.trans ?_ (Below.mono (by assumption) ?_)) | (simp <;> omega) | omega))
end Go.Proofs.YtjcnnjknhemimaaGreatDoor
