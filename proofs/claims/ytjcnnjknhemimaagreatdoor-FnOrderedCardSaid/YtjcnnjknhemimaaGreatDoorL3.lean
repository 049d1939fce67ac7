/- Contracts of the laws' conversions: laws.of, laws.all. -/
import Derived.Test.YtjcnnjknhemimaaGreatDoorL1
import Derived.Test.YtjcnnjknhemimaaGreatDoorFl
import Derived.Laws.ComplexArith
namespace Go.Proofs.YtjcnnjknhemimaaGreatDoor
open Go Go.RowKit Ieee Fl
attribute [local go_sem] run_store_float
/-- A value without rows; if a number, its parts are small and the lower one is a power of two. -/
def OkV (v : V) : Prop := v.k ≠ 5 ∧ (v.k = 1 → v.n.natAbs < 9007199254740992 ∧ ∃ p : Nat, p ≤ 50 ∧ v.d = ((2 ^ p : Nat) : Int))
/-- The double of a value. -/
def xOf (v : V) : Nat := if v.k = 1 then (double.div (floatOfInt .f64 v.n) (floatOfInt .f64 v.d)).getD 0 else if v.k = 3 then floatOfInt .f64 v.n else 0
/-- The value of the thin package that stands for a value of the reference. -/
def ofV (v : V) : I := ⟨v.k, xOf v, v.t⟩
def I.agg (v : I) : Value := .agg #[.int .i64 v.k, .float .f64 v.x, .string v.t, .slice none 0 0]
theorem run_quo {P : Program} {x y r : Nat} (t : TypeId) (h : double.div x y = some r) (w : World) : (binOp .quo t (.float .f64 x) (.float .f64 y)).run P w = .ok (.float .f64 r) w := by
  have h' : floatBits .quo .f64 x y = some r := h
  have := run_floatArith (P := P) (w := w) h'
  simpa [binOp] using this

theorem own_below {w w' : World} {base : Nat} {e : TypeId} {size n : Nat} {v : Value} {xs : List Value} (h : w.ownsRow base e size v n xs) (hb : Below w.heap.size w w') : w'.ownsRow base e size v n xs := by
  refine ⟨h.1, ?_⟩
  rcases h.2 with h0 | ⟨g, cap, cur, hv, hg, hh, hr⟩
  · exact .inl h0
  · exact .inr ⟨g, cap, cur, hv, hg, (hb.block g (Array.getElem?_eq_some_iff.1 hh).1).trans hh, hr⟩

set_option maxRecDepth 100000 in
set_option maxHeartbeats 1000000 in
theorem of_any (v : V) (hv : OkV v) (w : World) :
    Calls Tryz.prog 23 #[.agg #[.int .i64 v.k, .int .i64 v.n, .int .i64 v.d, .string v.t, .slice none 0 0]] w fun e w' => e = .returned (ofV v).agg ∧ Below w.heap.size w w' := by
  obtain ⟨k, n, d, t⟩ := v
  obtain ⟨h5, h1⟩ := hv
  simp only at h5 h1
  by_cases hk1 : k = 1
  · subst hk1
    obtain ⟨hn, p, hp, rfl⟩ := h1 rfl
    obtain ⟨r, hr, -⟩ := is_div hp (is_int n hn) hn
    have hr : double.div (floatOfInt .f64 n) (floatOfInt .f64 ((2 ^ p : Nat) : Int)) = some r := hr
    have hq := run_quo (P := Tryz.prog) 24 hr
    have hx : xOf ⟨1, n, ((2 ^ p : Nat) : Int), t⟩ = r := by simp only [xOf, if_pos, hr, Option.getD_some]
    generalize ((2 ^ p : Nat) : Int) = d at *
    clear h1 hn hr hp p
    go_enter Tryz.func23, Tryz.ntmps23
    go_wp2_with fail
    refine bodyPost_ret (v := (ofV ⟨1, n, d, t⟩).agg) ?_ rfl ⟨rfl, ?_⟩
    · simp [results, Tryz.results23, go_sem, I.agg, ofV, hx]
    · (repeat' (first | (with_reducible exact Below.refl _ _) | (with_reducible assumption) | (with_reducible refine Below.setCell ?_ ?_ _) | (with_reducible refine Below.alloc ?_ ?_ _) | (with_reducible refine Below.drew ?_) | (with_reducible refine below_drewN ?_ _) | (with_reducible refine Below.trans ?_ (Below.mono (by assumption) ?_)) | (simp <;> omega) | omega))
  · by_cases hk3 : k = 3
    · subst hk3
      go_enter Tryz.func23, Tryz.ntmps23
      go_wp2_with fail
      refine bodyPost_ret (v := (ofV ⟨3, n, d, t⟩).agg) ?_ rfl ⟨rfl, ?_⟩
      · simp [results, Tryz.results23, go_sem, I.agg, ofV, xOf]
      · (repeat' (first | (with_reducible exact Below.refl _ _) | (with_reducible assumption) | (with_reducible refine Below.setCell ?_ ?_ _) | (with_reducible refine Below.alloc ?_ ?_ _) | (with_reducible refine Below.drew ?_) | (with_reducible refine below_drewN ?_ _) | (with_reducible refine Below.trans ?_ (Below.mono (by assumption) ?_)) | (simp <;> omega) | omega))
    · go_enter Tryz.func23, Tryz.ntmps23
      go_wp2_with fail
      refine bodyPost_ret (v := (ofV ⟨k, n, d, t⟩).agg) ?_ rfl ⟨rfl, ?_⟩
      · simp [results, Tryz.results23, go_sem, I.agg, ofV, xOf, hk1, hk3]
      · (repeat' (first | (with_reducible exact Below.refl _ _) | (with_reducible assumption) | (with_reducible refine Below.setCell ?_ ?_ _) | (with_reducible refine Below.alloc ?_ ?_ _) | (with_reducible refine Below.drew ?_) | (with_reducible refine below_drewN ?_ _) | (with_reducible refine Below.trans ?_ (Below.mono (by assumption) ?_)) | (simp <;> omega) | omega))

set_option maxRecDepth 100000 in
set_option maxHeartbeats 1000000 in
theorem all_any (vs : List V) (hp : ∀ v ∈ vs, OkV v) (A : Option Addr) (n c : Nat) (hn : n ≤ 1000) (w : World) (hr : Rd w w.heap.size 5 A n (cellsV vs)) :
    Calls Tryz.prog 13 #[.slice A n c] w fun e w' => ∃ A' c', e = .returned (.slice A' n c') ∧ w'.ownsRow w.heap.size 27 4 (.slice A' n c') n (cellsI (vs.map ofV)) ∧ Below w.heap.size w w' := by
  obtain ⟨i0, hi, hz0, hz1, hz2⟩ := info_parts info47
  have HR := hide hr
  have HP := hide hp
  have hl : vs.length = n := by have := hr.1; rw [cellsV_length] at this; omega
  clear hr hp
  go_enter Tryz.func13, Tryz.ntmps13
  go_wp2_with fail
  go_loopw [3, 4] (fun v i wr => ∃ k : Nat, k ≤ n ∧ i = .int .i64 k ∧ Hid (wr.ownsRow w.heap.size 27 4 v k (cellsI ((vs.take k).map ofV))) ∧ Below w.heap.size w wr) (fun _ i _ => n - (intOf i).toNat)
  case atStart => exact ⟨0, by omega, rfl, hide ⟨by simp [cellsI], .inl ⟨rfl, rfl⟩⟩, Below.refl _ _⟩
  case round =>
    obtain ⟨k, hk, rfl, hown, hb⟩ := hrel
    by_cases hlt : k < n
    · obtain ⟨g, kk, m, d, t, rfl, hg, hv, h0, h1, h2, h3, h4⟩ := rdV (HR.out.below hb) k hlt
      obtain ⟨x, hx⟩ : ∃ x, xOf ⟨kk, m, d, t⟩ = x := ⟨_, rfl⟩
      have HO : Hid (∀ w, Calls Tryz.prog 23 #[.agg #[.int .i64 kk, .int .i64 m, .int .i64 d, .string t, .slice none 0 0]] w fun e w' => e = .returned (.agg #[.int .i64 kk, .float .f64 x, .string t, .slice none 0 0]) ∧ Below w.heap.size w w') := by
        subst hx
        exact hide (of_any ⟨kk, m, d, t⟩ (HP.out _ (List.mem_of_getElem? hv)))
      have hz := hb.size
      have HV := hide hv
      clear hv
      go_wp2_with (first
        | (go_at_call 23; refine (HO.out _).mono ?_; rintro e w1 ⟨rfl, hb1⟩; have hs1 := hb1.size)
        | (at_builtin; refine wpList_append_any _ rfl (.tmp 11) (.tmp 17) _ rfl w.heap.size 27 i0 _ 4 56 Tryz.underlying37 hi hz0 hz1 hz2 rfl (by omega) _ k _ rfl ((own_below (hown.out) hb1).alloc _) (w1.heap.size + 1) (some ⟨w1.heap.size, 0, none⟩) 1 1 [.int .i64 kk, .float .f64 x, .string t, .slice none 0 0] rfl (reads_new w1 27 #[.int .i64 kk, .float .f64 x, .string t, .slice none 0 0] 4 1 rfl) (by simp [Value.oneCell']) (by unfold maxLen; omega) (by omega) (by simp; omega) ?_; intro v' w' hown' hgrow hloc))
      go_roundw
      case rel => 
        refine ⟨k + 1, by omega, by go_num, hide ?_, ?_⟩
        · rw [List.take_add_one, HV.out]
          simpa [cellsI_snoc, I.cells, ofV, hx] using hown'
        · exact ((hb.trans (hb1.mono hz)).alloc (by omega) _).grown hgrow (by simp; omega) (own_ge hown.out)
      case measure => simp [intOf]; omega
    · obtain rfl : k = n := by omega
      go_wp2_with fail
      go_ret
      obtain ⟨A', c', rfl⟩ := own_slice hown.out
      refine ⟨A', c', rfl, ?_, hb⟩
      have e : vs.take vs.length = vs := List.take_length
      have h' := hown.out
      rwa [← hl, e, hl] at h'
end Go.Proofs.YtjcnnjknhemimaaGreatDoor
