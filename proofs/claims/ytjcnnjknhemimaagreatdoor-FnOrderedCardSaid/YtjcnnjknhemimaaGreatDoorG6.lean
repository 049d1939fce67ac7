/- Contract of laws.all over arguments: numbers and columns. -/
import Derived.Test.YtjcnnjknhemimaaGreatDoorG5
namespace Go.Proofs.YtjcnnjknhemimaaGreatDoor
open Go Go.RowKit
/-- A value of the thin package, as a call returns it. -/
def RetI (x : Ar) (w : World) (e : Ending) (w' : World) : Prop := ∃ k f A m c, e = .returned (.agg #[.int .i64 k, .float .f64 f, .string ⟨#[]⟩, .slice A m c]) ∧ okI w' (In w.heap.size w'.heap.size) x [.int .i64 k, .float .f64 f, .string ⟨#[]⟩, .slice A m c] ∧ Below w.heap.size w w'
theorem okS_shape {w : World} {S : Nat → Prop} {x : Ar} {cs : List Value} (h : okS w S x cs) : ∃ k n d A m c, cs = [.int .i64 k, .int .i64 n, .int .i64 d, .string ⟨#[]⟩, .slice A m c] := by
  cases x with
  | num n => exact ⟨1, n, 1, none, 0, 0, h⟩
  | col ns =>
    obtain ⟨A, c, e, _⟩ := h
    exact ⟨5, 0, 0, A, _, c, e⟩
theorem okI_shape {w : World} {S : Nat → Prop} {x : Ar} {cs : List Value} (h : okI w S x cs) : ∃ k f A m c, cs = [.int .i64 k, .float .f64 f, .string ⟨#[]⟩, .slice A m c] := by
  cases x with
  | num n => exact ⟨1, dbl n, none, 0, 0, h⟩
  | col ns =>
    obtain ⟨A, c, e, _⟩ := h
    exact ⟨5, 0, A, _, c, e⟩
theorem of_ar (x : Ar) (hx : OkAr x) (k n d : Int) (A : Option Addr) (m c lo : Nat) (w : World) (h : okS w (In lo w.heap.size) x [.int .i64 k, .int .i64 n, .int .i64 d, .string ⟨#[]⟩, .slice A m c]) :
    Calls Tryz.prog 23 #[.agg #[.int .i64 k, .int .i64 n, .int .i64 d, .string ⟨#[]⟩, .slice A m c]] w (RetI x w) := by
  cases x with
  | num z =>
    have e : [Value.int .i64 k, .int .i64 n, .int .i64 d, .string ⟨#[]⟩, .slice A m c] = sNum z := h
    simp only [sNum, List.cons.injEq, Value.int.injEq, Value.slice.injEq, true_and, and_true] at e
    obtain ⟨rfl, rfl, rfl, rfl, rfl, rfl⟩ := e
    refine (of_any ⟨1, n, 1, ⟨#[]⟩⟩ (okV_num n hx) w).mono ?_
    rintro e w' ⟨rfl, hb⟩
    rw [ofV_num]
    exact ⟨1, dbl n, none, 0, 0, rfl, rfl, hb⟩
  | col ns =>
    obtain ⟨A1, c1, e, hg⟩ := h
    simp only [List.cons.injEq, Value.int.injEq, Value.slice.injEq, true_and, and_true] at e
    obtain ⟨rfl, rfl, rfl, rfl, rfl, rfl⟩ := e
    refine (of_col ns hx A _ c rfl lo w hg).mono ?_
    rintro e w' ⟨A', c', rfl, hg', hb⟩
    exact ⟨5, 0, A', _, c', rfl, ⟨A', c', rfl, hg'⟩, hb⟩
/-- A list of values of the thin package, as a call returns it. -/
def ListI (xs : List Ar) (w : World) (e : Ending) (w' : World) : Prop := ∃ A c, e = .returned (.slice A xs.length c) ∧ RdL w' (In w.heap.size w'.heap.size) 4 okI A xs ∧ Below w.heap.size w w'
set_option maxRecDepth 100000 in
set_option maxHeartbeats 2000000 in
theorem all_args (xs : List Ar) (hok : ∀ x ∈ xs, OkAr x) (A : Option Addr) (n c lo : Nat) (hn : xs.length = n) (hn2 : n ≤ 1000) (w : World) (hr : RdL w (In lo w.heap.size) 5 okS A xs) :
    Calls Tryz.prog 13 #[.slice A n c] w (ListI xs w) := by
  obtain ⟨i0, hi, hz0, hz1, hz2⟩ := info_parts info47
  have HR := hide hr
  have HP := hide hok
  have HN := hide hn
  clear hr hok hn
  go_enter Tryz.func13, Tryz.ntmps13
  go_wp2_with fail
  go_loopw [3, 4] (fun v i wr => ∃ (k : Nat) (css : List (List Value)), k ≤ n ∧ i = .int .i64 k ∧ Hid (wr.ownsRow w.heap.size 27 4 v k css.flatten) ∧ Hid (Built wr (Apt w.heap.size wr.heap.size v.ownBlock) 4 okI css (xs.take k)) ∧ Below w.heap.size w wr) (fun _ i _ => n - (intOf i).toNat)
  case atStart => exact ⟨0, [], by omega, rfl, hide ⟨by simp, .inl ⟨rfl, rfl⟩⟩, hide (by simpa using Built.nil _ _ _ _), Below.refl _ _⟩
  case round =>
    obtain ⟨k, css, hk, rfl, hown, hbl, hb⟩ := hrel
    by_cases hlt : k < n
    · obtain ⟨x, hx⟩ : ∃ x, xs[k]? = some x := ⟨_, List.getElem?_eq_getElem (by rw [HN.out]; exact hlt)⟩
      obtain ⟨g, cs, rfl, hg, hl, ho, hcs⟩ := RdL.at_ (RdL.below okS_keeps HR.out hb) hx
      obtain ⟨kk, m, d, A1, m1, c1, rfl⟩ := okS_shape ho
      have h0 := hcs 0 _ rfl
      have h1 := hcs 1 _ rfl
      have h2 := hcs 2 _ rfl
      have h3 := hcs 3 _ rfl
      have h4 := hcs 4 _ rfl
      simp only [Nat.add_zero] at h0
      have hz := hb.size
      have HO := hide (of_ar x (HP.out x (List.mem_of_getElem? hx)) kk m d A1 m1 c1 lo wr (okS_keeps _ _ _ _ _ _ (fun q hq => ⟨⟨hq.1, by have := hq.2; omega⟩, rfl⟩) ho))
      have HX := hide hx
      clear hx hcs ho hl
      have hlti : (k : Int) < n := by omega
      go_wp2_with (first
        | (go_at_call 23; refine HO.out.mono ?_; rintro e w1 ⟨k2, f2, A2, m2, c2, rfl, hok2, hb1⟩; have hs1 := hb1.size)
        | (at_builtin; refine wpList_append_any _ rfl (.tmp 11) (.tmp 17) _ rfl w.heap.size 27 i0 _ 4 56 Tryz.underlying37 hi hz0 hz1 hz2 rfl (by omega) _ k _ rfl ((own_below (hown.out) hb1).alloc _) (w1.heap.size + 1) (some ⟨w1.heap.size, 0, none⟩) 1 1 [.int .i64 k2, .float .f64 f2, .string ⟨#[]⟩, .slice A2 m2 c2] rfl (reads_new w1 27 #[.int .i64 k2, .float .f64 f2, .string ⟨#[]⟩, .slice A2 m2 c2] 4 1 rfl) (by simp [Value.oneCell']) (by unfold maxLen; omega) (by omega) (by simp; omega) ?_; intro v' w' hown' hgrow hloc))
      go_roundw
      case rel =>
        refine ⟨k + 1, css ++ [[.int .i64 k2, .float .f64 f2, .string ⟨#[]⟩, .slice A2 m2 c2]], by omega, by go_num, hide (by simpa using hown'), hide ?_, ?_⟩
        · rw [List.take_add_one, HX.out]
          show Built _ _ _ _ _ (List.take k xs ++ [x])
          have b1 := (hbl.out.below okI_keeps hb1).below okI_keeps ((Below.refl w1.heap.size w1).alloc (Nat.le_refl _) (.cells #[.int .i64 k2, .float .f64 f2, .string ⟨#[]⟩, .slice A2 m2 c2] 27))
          refine (b1.snoc rfl (okI_keeps _ _ _ _ _ _ (fun q hq => ⟨⟨by have := hq.1; omega, by have := hq.2; simp; omega, fun e => ?_⟩, Below.heap_alloc w1 _ q hq.2⟩) hok2)).grown okI_keeps hgrow hloc
          have := own_lt hown.out q e
          have := hq.1
          omega
        · exact ((hb.trans (hb1.mono hz)).alloc (by omega) _).grown hgrow (by simp; omega) (own_ge hown.out)
      case measure => simp [intOf]; omega
    · obtain rfl : k = n := by omega
      have hlti : ¬ (k : Int) < k := by omega
      go_wp2_with fail
      go_ret
      obtain ⟨A', c', rfl⟩ := own_slice hown.out
      refine ⟨A', c', by rw [HN.out]; rfl, ?_, hb⟩
      have h := hbl.out
      rw [← HN.out, List.take_length] at h
      exact RdL.of_built (h.all_ okI_keeps) hown.out HN.out.symm (fun g _ h1 h2 => ⟨h1, h2⟩)
end Go.Proofs.YtjcnnjknhemimaaGreatDoor
