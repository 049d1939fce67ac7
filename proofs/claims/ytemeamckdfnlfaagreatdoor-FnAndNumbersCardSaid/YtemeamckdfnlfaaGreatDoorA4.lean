/- Contracts of the machine's AND: AND over its list, its door, the thin package's AND. -/
import Derived.Test.YtemeamckdfnlfaaGreatDoorA3
namespace Go.Proofs.YtemeamckdfnlfaaGreatDoor
open Go Go.RowKit Ieee Fl
attribute [local go_sem] run_store_float
/-- How far a pointer's block lies below a last one: a measure. -/
def leftOf (B : Nat) : Value → Nat
  | .pointer (some a) => B + 1 - a.block
  | _ => 0
/-- What AND answers. -/
def andF (fs : List F) : F := ⟨oneOf (fs.all fun f => yes f.x), ⟨#[]⟩, true, ⟨#[]⟩, 1⟩
theorem all_take {fs : List F} {k : Nat} {f : F} (h : fs[k]? = some f) : ((fs.take (k + 1)).all fun f => yes f.x) = (((fs.take k).all fun f => yes f.x) && yes f.x) := by
  rw [List.take_add_one, h, List.all_append]
  simp
theorem next_chain_more (q : Nat → Nat) (n : Nat) (fs : List F) (w : World) (h : Chain w n q fs) (k : Nat) (hk : k + 1 < n) :
    Calls Tryz.prog 60 #[.pointer (some ⟨q (k + 1), 0, none⟩)] w fun e w' => e = .returned (.pointer (some ⟨q (k + 1 + 1), 0, none⟩)) ∧ w = w' := by
  obtain ⟨p1, p2, p3, p4, p5⟩ := h
  have a1 := (p1 (k + 1) (by omega)).2.2.2
  rw [if_pos hk] at a1
  have a2 := p1 (k + 1 + 1) (by omega)
  have a0 := p1 0 (by omega)
  have hne : q (k + 1 + 1) ≠ q 0 := by have := a2.2.2.1 0 (by omega); omega
  exact next_more (q (k + 1)) (q 0) (q (k + 1 + 1)) w hne a1 (p5 k (by omega)).1 _ _ a2.2.2.2 a0.2.2.2 a2.2.1 a0.2.1
theorem next_chain_last (q : Nat → Nat) (n : Nat) (fs : List F) (w : World) (h : Chain w n q fs) (k : Nat) (hk : k + 1 = n) :
    Calls Tryz.prog 60 #[.pointer (some ⟨q (k + 1), 0, none⟩)] w fun e w' => e = .returned (.pointer none) ∧ w = w' := by
  obtain ⟨p1, p2, p3, p4, p5⟩ := h
  have a1 := (p1 (k + 1) (by omega)).2.2.2
  rw [if_neg (by omega)] at a1
  exact next_last (q (k + 1)) (q 0) w a1 (p5 k (by omega)).1
set_option maxRecDepth 100000 in
set_option maxHeartbeats 2000000 in
theorem AND_any (a : Addr) (q : Nat → Nat) (n : Nat) (hn0 : 0 < n) (hn : n ≤ 30) (fs : List F) (hty : ∀ f ∈ fs, f.ty = 1) (w : World) (hch : Chain w n q fs) :
    Calls Tryz.prog 40 #[.pointer (some a), .pointer (some ⟨q 0, 0, none⟩)] w fun e w' => e = .returned (andF fs).agg ∧ Below w.heap.size w w' := by
  have HCh := hide hch
  have HT := hide hty
  obtain ⟨p1, p2, p3, p4, p5⟩ := hch
  have p7 := (p1 0 (by omega)).2.2.2
  rw [if_pos hn0] at p7
  have g0 := (p1 0 (by omega)).1
  have hup : Hid (∀ i, i ≤ n → ∀ j, j < i → q j < q i) := hide fun i hi => (p1 i hi).2.2.1
  have hlen := hide p4
  clear p1 p2 p4 p5 hty
  go_enter Tryz.func40, Tryz.ntmps40
  go_wp2_with (first
    | (go_at_call 52; refine (len_any (q 0) n _ ((World.cell?_alloc_lt _ _ _ g0).trans p3)).mono ?_; rintro e w1 ⟨rfl, rfl⟩)
    | (go_at_call 54; refine (front_any (q 0) (q 1) n (by omega) _ ((World.cell?_alloc_lt _ _ _ g0).trans p3) ((World.cell?_alloc_lt _ _ _ g0).trans p7)).mono ?_; rintro e w1 ⟨rfl, rfl⟩))
  go_loopw [5, 6] (fun an ar wr => ∃ k : Nat, k ≤ n ∧ an = .bool ((fs.take k).all fun f => yes f.x) ∧ ((k < n ∧ ar = .pointer (some ⟨q (k + 1), 0, none⟩)) ∨ (k = n ∧ ar = .pointer none)) ∧ Below (w.heap.size + 1) (w.alloc (.cells #[.string ⟨#[]⟩, .float .f64 0, .string ⟨#[]⟩, .slice none 0 0, .slice none 0 0, .bool false, .string ⟨#[]⟩, .int .u8 0, .pointer none, .pointer none] 69)) wr) (fun _ ar _ => leftOf (q n) ar)
  case atStart => exact ⟨0, by omega, rfl, .inl ⟨hn0, rfl⟩, Below.refl _ _⟩
  case round =>
    obtain ⟨k, hk, rfl, hk', hb⟩ := hrel
    have hbw : Below w.heap.size w wr := (Below.alloc (Below.refl _ _) (Nat.le_refl _) _).trans (hb.mono (by omega))
    rcases hk' with ⟨hlt, rfl⟩ | ⟨rfl, rfl⟩
    · have HC1 := hide (HCh.out.below hbw)
      obtain ⟨p1, p2, p3', p4, p5⟩ := HCh.out.below hbw
      obtain ⟨-, f, ef, p6⟩ := p5 k hlt
      have gE := (p1 (k + 1) (by omega)).1
      have hfty : f.ty = 1 := HT.out _ (List.mem_of_getElem? ef)
      have HA := hide (all_take ef)
      clear p1 p2 p3' p4 p5 ef
      have hz := hbw.size
      obtain ⟨x, s, b, er, ty⟩ := f
      simp only at hfty
      subst hfty
      unfold F.agg at p6
      simp only at p6 HA
      obtain ⟨y, hy⟩ : ∃ y, yes x = y := ⟨_, rfl⟩
      obtain ⟨z, hzz⟩ : ∃ z, ((fs.take k).all fun f => yes f.x) = z := ⟨_, rfl⟩
      have HN := hide (and_any a ⟨x, s, b, er, 1⟩ rfl)
      simp only [F.agg, hy] at HN
      rw [hy, hzz] at HA
      rw [hzz]
      clear hzz hy
      cases y <;> cases z
      all_goals
        simp only [oneOf, if_true, if_false, Bool.false_eq_true] at HN
        go_wp2_with fail
        refine (HN.out _).mono ?_
        rintro e w1 ⟨rfl, hb1⟩
        obtain ⟨hc1, hf1, hz1⟩ := own_cells (hb1.mono (show wr.heap.size + 1 ≤ _ by simp))
        have hb2 : Below (w.heap.size + 1) (w.alloc (.cells #[.string ⟨#[]⟩, .float .f64 0, .string ⟨#[]⟩, .slice none 0 0, .slice none 0 0, .bool false, .string ⟨#[]⟩, .int .u8 0, .pointer none, .pointer none] 69)) w1 := (hb.alloc (by have := hb.size; simpa using this) _).trans (hb1.mono (by have := hb.size; simp at this ⊢; omega))
        have hb2w : Below w.heap.size w w1 := (Below.alloc (Below.refl _ _) (Nat.le_refl _) _).trans (hb2.mono (by omega))
        have HN2 : ∀ o, Hid (Chain (w1.alloc o) n q fs) := fun o => hide (HCh.out.below (hb2w.alloc hb2w.size o))
        have hz2 : w.heap.size + 1 ≤ w1.heap.size := by have := hb2.size; simpa using this
        clear hb1 p6
        go_wp2_with fail
        by_cases hk1 : k + 1 < n
        · refine (next_chain_more q n fs _ (HN2 _).out k hk1).mono ?_
          rintro e w2 ⟨rfl, rfl⟩
          go_wp2_with fail
          go_roundw
          case rel => exact ⟨k + 1, by omega, by rw [HA.out]; first | rfl | (rw [order_one]; rfl) | (rw [order_zero]; rfl), .inl ⟨hk1, rfl⟩, hb2.alloc hz2 _⟩
          case measure =>
            have h1 := hup.out (k + 1 + 1) (by omega) (k + 1) (by omega)
            have h2 : q (k + 1 + 1) ≤ q n := by
              rcases Nat.lt_or_ge (k + 1 + 1) n with h | h
              · exact Nat.le_of_lt (hup.out n (by omega) (k + 1 + 1) h)
              · rw [show k + 1 + 1 = n by omega]; exact Nat.le_refl _
            simp [leftOf]
            omega
        · refine (next_chain_last q n fs _ (HN2 _).out k (by omega)).mono ?_
          rintro e w2 ⟨rfl, rfl⟩
          go_wp2_with fail
          go_roundw
          case rel => exact ⟨k + 1, by omega, by rw [HA.out]; first | rfl | (rw [order_one]; rfl) | (rw [order_zero]; rfl), .inr ⟨by omega, rfl⟩, hb2.alloc hz2 _⟩
          case measure =>
            have h2 : q (k + 1) ≤ q n := by rw [show k + 1 = n by omega]; exact Nat.le_refl _
            simp [leftOf]
            omega
    · have e : fs.take k = fs := by rw [← hlen.out]; exact List.take_length
      rw [e]
      obtain ⟨hc, hf, hz⟩ := own_cells hb
      go_wp2_with (go_at_call 62; refine (newBool_any _ _).mono ?_; rintro e w1 ⟨rfl, hb1⟩; dsimp only [F.agg]; have hB : Below (w.heap.size + 1) (w.alloc (.cells #[.string ⟨#[]⟩, .float .f64 0, .string ⟨#[]⟩, .slice none 0 0, .slice none 0 0, .bool false, .string ⟨#[]⟩, .int .u8 0, .pointer none, .pointer none] 69)) w1 := hb.trans (hb1.mono (by omega)); obtain ⟨hc2, hf2, hz2⟩ := own_cells hB; have hbel : Below w.heap.size w w1 := hbw.trans (hb1.mono hbw.size); clear hb1 hB)
      refine bodyPost_ret (v := F.agg (andF fs)) ?_ rfl ⟨rfl, ?_⟩
      · simp [results, Tryz.results40, go_sem, F.agg, andF, hc2]
      · (repeat' (first | (with_reducible exact Below.refl _ _) | (with_reducible assumption) | (with_reducible refine Below.setCell ?_ ?_ _) | (with_reducible refine Below.alloc ?_ ?_ _) | (with_reducible refine Below.drew ?_) | (with_reducible refine below_drewN ?_ _) | (with_reducible refine Below.trans ?_ (Below.mono (by assumption) ?_)) | (simp <;> omega) | omega))
end Go.Proofs.YtemeamckdfnlfaaGreatDoor
