/- Contract of the doors' innerList over arguments: numbers and columns. -/
import Derived.Test.YtjcnnjknhemimaaGreatDoorG6
import Derived.Test.YtjcnnjknhemimaaGreatDoorG8
namespace Go.Proofs.YtjcnnjknhemimaaGreatDoor
open Go Go.RowKit
attribute [local go_sem] run_store_float
theorem below_push {B : Nat} {a w : World} {L P : Nat} (h : Below B a w) (hL : B ≤ L) (hP : B ≤ P) (hB : B ≤ w.heap.size) (u1 u2 u3 : Value) (o : Obj) :
    Below B a ((((w.setCell ⟨P, 0, none⟩ u1).setCell ⟨L, 1, none⟩ u2).setCell ⟨L, 4, none⟩ u3).alloc o) :=
  (((h.setCell hP _).setCell hL _).setCell hL _).alloc (by simpa using hB) _
/-- A formula argument, as a call returns it. -/
def RetF (x : Ar) (w : World) (e : Ending) (w' : World) : Prop := ∃ v cs, e = .returned v ∧ v = .agg cs.toArray ∧ okF w' (In w.heap.size w'.heap.size) x cs ∧ Below w.heap.size w w'
theorem inner_ar (x : Ar) (hx : OkAr x) (k : Int) (f : Nat) (A : Option Addr) (m c lo : Nat) (w : World) (h : okI w (In lo w.heap.size) x [.int .i64 k, .float .f64 f, .string ⟨#[]⟩, .slice A m c]) :
    Calls Tryz.prog 37 #[.agg #[.int .i64 k, .float .f64 f, .string ⟨#[]⟩, .slice A m c]] w (RetF x w) := by
  cases x with
  | num z =>
    have e : [Value.int .i64 k, .float .f64 f, .string ⟨#[]⟩, .slice A m c] = iNum z := h
    simp only [iNum, List.cons.injEq, Value.int.injEq, Value.float.injEq, Value.slice.injEq, true_and, and_true] at e
    obtain ⟨rfl, rfl, rfl, rfl, rfl⟩ := e
    refine (inner_num z hx w).mono ?_
    rintro e w' ⟨rfl, hb⟩
    exact ⟨_, fNum z, rfl, rfl, rfl, hb⟩
  | col ns =>
    obtain ⟨A1, c1, e, hg⟩ := h
    simp only [List.cons.injEq, Value.int.injEq, Value.float.injEq, Value.slice.injEq, true_and, and_true] at e
    obtain ⟨rfl, rfl, rfl, rfl, rfl⟩ := e
    refine (inner_col ns hx A _ c rfl lo w hg).mono ?_
    rintro e w' ⟨A', c', L1, L2, rfl, hok, hb⟩
    exact ⟨_, _, rfl, rfl, hok, hb⟩
/-- The values of a chain are the arguments xs. -/
def Args (w : World) (S : Nat → Prop) (xs : List Ar) (vs : List Value) : Prop := ∀ (i : Nat) (x : Ar), xs[i]? = some x → ∃ cs, vs[i]? = some (.agg cs.toArray) ∧ okF w S x cs
theorem Args.keep {w w' : World} {S S' : Nat → Prop} {xs : List Ar} {vs : List Value} (h : Args w S xs vs) (hk : ∀ g, S g → S' g ∧ w'.heap[g]? = w.heap[g]?) : Args w' S' xs vs := fun i x hx => by
  obtain ⟨cs, a, b⟩ := h i x hx
  exact ⟨cs, a, okF_keeps w w' S S' x cs hk b⟩
theorem Args.snoc {w : World} {S : Nat → Prop} {xs : List Ar} {vs : List Value} (hl : vs.length = xs.length) (h : Args w S xs vs) {x : Ar} {cs : List Value} (ho : okF w S x cs) : Args w S (xs ++ [x]) (vs ++ [.agg cs.toArray]) := fun i y hy => by
  rcases Nat.lt_or_ge i xs.length with hi | hi
  · rw [List.getElem?_append_left hi] at hy
    rw [List.getElem?_append_left (by omega)]
    exact h i y hy
  · rw [List.getElem?_append_right hi] at hy
    have e : i - xs.length = 0 := by
      have := (List.getElem?_eq_some_iff.1 hy).1
      simp at this
      omega
    rw [e] at hy
    simp at hy
    subst hy
    exact ⟨cs, by rw [List.getElem?_append_right (by omega), hl, e]; rfl, ho⟩
/-- The blocks that the chain does not use. -/
def Off (B n : Nat) (q : Nat → Nat) : Nat → Prop := fun g => g < B ∧ ∀ i, i ≤ n → q i ≠ g
/-- A list of arguments, as a call returns it. -/
def ListF (xs : List Ar) (w : World) (e : Ending) (w' : World) : Prop := ∃ q vs, e = .returned (.pointer (some ⟨q 0, 0, none⟩)) ∧ Chain w' xs.length q vs ∧ Args w' (In 0 w'.heap.size) xs vs ∧ Below w.heap.size w w'
set_option maxRecDepth 100000 in
set_option maxHeartbeats 2000000 in
theorem innerList_args (xs : List Ar) (hok : ∀ x ∈ xs, OkAr x) (A : Option Addr) (n c lo : Nat) (hn : xs.length = n) (hn2 : n ≤ 1000) (w : World) (hr : RdL w (In lo w.heap.size) 4 okI A xs) :
    Calls Tryz.prog 27 #[.slice A n c] w (ListF xs w) := by
  have HR := hide hr
  have HP := hide hok
  have HN := hide hn
  clear hr hok hn
  go_enter Tryz.func27, Tryz.ntmps27
  go_wp2_with fail
  refine (new_any _).mono ?_
  rintro e w1 ⟨rfl, rfl⟩
  go_wp2_with fail
  go_loopw [9] (fun i wr => ∃ (k : Nat) (q : Nat → Nat) (vs : List Value), k ≤ n ∧ i = .int .i64 k ∧ q 0 = w.heap.size ∧ Hid (Chain wr k q vs) ∧ Hid (Args wr (Off wr.heap.size k q) (xs.take k) vs) ∧ Below w.heap.size w wr) (fun i _ => n - (intOf i).toNat)
  case atStart =>
    refine ⟨0, fun _ => w.heap.size, [], by omega, rfl, rfl, hide ⟨fun i hi => ⟨by simp, fun o => by simp, fun j hj => by omega, by simp⟩, by simp, by simp, by simp, fun i hi => by omega⟩, hide (fun i x h => by simp at h), by (repeat' (first | (with_reducible exact Below.refl _ _) | (with_reducible assumption) | (with_reducible refine Below.setCell ?_ ?_ _) | (with_reducible refine Below.alloc ?_ ?_ _) | (with_reducible refine Below.drew ?_) | (with_reducible refine below_drewN ?_ _) | (with_reducible refine Below.trans ?_ (Below.mono (by assumption) ?_)) | (simp <;> omega) | omega))⟩
  case round =>
    obtain ⟨k, q, vs, hk, rfl, hq0, hch, hargs, hb⟩ := hrel
    by_cases hlt : k < n
    · obtain ⟨x, hx⟩ : ∃ x, xs[k]? = some x := ⟨_, List.getElem?_eq_getElem (by rw [HN.out]; exact hlt)⟩
      obtain ⟨g, cs, rfl, hg, hl, ho, hcs⟩ := RdL.at_ (RdL.below okI_keeps HR.out hb) hx
      obtain ⟨kk, f, A1, m1, c1, rfl⟩ := okI_shape ho
      have h0 := hcs 0 _ rfl
      have h1 := hcs 1 _ rfl
      have h2 := hcs 2 _ rfl
      have h3 := hcs 3 _ rfl
      simp only [Nat.add_zero] at h0
      have hz := hb.size
      have HX := hide hx
      have HO := hide (fun (o : Obj) => inner_ar x (HP.out x (List.mem_of_getElem? hx)) kk f A1 m1 c1 lo (wr.alloc o) (okI_keeps _ _ _ _ _ _ (fun q hq => ⟨⟨hq.1, by have := hq.2; simp; omega⟩, Below.heap_alloc wr _ q (by have := hq.2; omega)⟩) ho))
      clear hx hcs hl ho
      have hlti : (k : Int) < n := by omega
      have hgz : g < wr.heap.size := by have := hg.2; omega
      go_wp2_with fail
      refine (HO.out _).mono ?_
      rintro e w1 ⟨v, ds, rfl, hv, hokF, hb1⟩
      have HV := hide hv
      clear hv
      have hbx : Below wr.heap.size wr w1 := (Below.alloc (Below.refl _ _) (Nat.le_refl _) _).trans (hb1.mono (by simp))
      have hch1 : Chain w1 k q vs := hch.out.below hbx
      have hb2 : Below w.heap.size w w1 := hb.trans (hbx.mono hz)
      have hc1 := hide hch1
      obtain ⟨p1, p2, p3, p4, p5⟩ := hch1
      have HPu := hide (push_any (q 0) (q k) _ k v 55 (by omega) w1 (p1 0 (by omega)).1 (p1 k (by omega)).1 (p1 0 (by omega)).2.2.2 p2 p3 (by rw [(p1 k (by omega)).2.2.2, if_neg (Nat.lt_irrefl _)]) (p1 0 (by omega)).2.1 (p1 k (by omega)).2.1)
      have hqk : w.heap.size ≤ q k := by
        rcases Nat.eq_zero_or_pos k with h | h
        · subst h; omega
        · have := (p1 k (by omega)).2.2.1 0 h; omega
      have hqi := hide (show ∀ i, i ≤ k → q i < wr.heap.size from fun i hi => (hch.out.1 i hi).1)
      have HL := hide p4
      clear p1 p2 p3 p4 p5
      rw [hq0] at HPu
      go_wp2_with fail
      refine HPu.out.mono ?_
      rintro e w2 ⟨⟨u, rfl⟩, rfl⟩
      go_wp2_with fail
      go_roundw
      case rel =>
        refine ⟨k + 1, fun i => if i = k + 1 then w1.heap.size else q i, vs ++ [v], by omega, by go_num, by simp [hq0], hide ?_, hide ?_, below_push hb2 (Nat.le_refl _) hqk hb2.size _ _ _ _⟩
        · have := hc1.out.push v
          rw [hq0] at this
          exact this
        · rw [List.take_add_one, HX.out]
          show Args _ _ (List.take k xs ++ [x]) _
          have a1 : Args w1 (Off w1.heap.size k q) (xs.take k) vs := hargs.out.keep fun g hg => ⟨⟨Nat.lt_of_lt_of_le hg.1 hbx.size, hg.2⟩, hbx.block g hg.1⟩
          have o1 : okF w1 (Off w1.heap.size k q) x ds := okF_keeps _ _ _ _ _ _ (fun g hg => ⟨⟨hg.2, fun i hi => by have := hqi.out i hi; have := hg.1; simp at this; omega⟩, rfl⟩) hokF
          rw [HV.out]
          refine (a1.snoc (by rw [HL.out, List.length_take, HN.out]; omega) o1).keep fun g hg => ?_
          have hne0 : q 0 ≠ g := hg.2 0 (by omega)
          have hnek : q k ≠ g := hg.2 k (by omega)
          refine ⟨⟨by simp; have := hg.1; omega, fun i hi => ?_⟩, ?_⟩
          · have hg1 := hg.1
            simp only
            split
            · omega
            · exact hg.2 i (by omega)
          · rw [Below.heap_alloc _ _ g (by simpa using hg.1), Below.heap_setCell _ _ _ _ (by show g ≠ w.heap.size; omega), Below.heap_setCell _ _ _ _ (by show g ≠ w.heap.size; omega), Below.heap_setCell _ _ _ _ (by show g ≠ q k; omega)]
      case measure => simp [intOf]; omega
    · obtain rfl : k = n := by omega
      have hlti : ¬ (k : Int) < k := by omega
      go_wp2_with fail
      go_ret
      refine ⟨q, vs, ?_, by rw [HN.out]; exact hch.out, ?_, hb⟩
      · rw [hq0]; rfl
      · have h := hargs.out
        rw [← HN.out, List.take_length] at h
        exact h.keep fun g hg => ⟨⟨Nat.zero_le _, hg.1⟩, rfl⟩
end Go.Proofs.YtjcnnjknhemimaaGreatDoor
