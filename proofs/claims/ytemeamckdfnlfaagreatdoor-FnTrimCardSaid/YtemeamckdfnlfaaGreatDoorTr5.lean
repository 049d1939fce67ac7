/- The machine's TRIM: its closure, strings.FieldsFunc and strings.Join by the shelf's contracts. -/
import Derived.Test.YtemeamckdfnlfaaGreatDoorTr1
import Derived.Test.YtemeamckdfnlfaaGreatDoorD6
import Derived.Test.YtemeamckdfnlfaaGreatDoorShelf
namespace Go.Proofs.YtemeamckdfnlfaaGreatDoor
open Go Go.RowKit Go.Lib Go.Shelf
attribute [local go_sem] run_store_float
theorem trimClosure_any (w : World) : PredAt Tryz.prog 65 #[] encR blankR w := by
  intro W x hb
  show Calls Tryz.prog 65 #[.int .i32 (x : Int)] W _
  by_cases h : x = 32
  · subst h
    go_enter Tryz.func65, Tryz.ntmps65
    go_wp2_with fail
    go_ret
    exact ⟨rfl, 0, rfl⟩
  · have hb' : blankR x = false := by simpa [blankR] using h
    have hx : ¬ (x : Int) = 32 := by omega
    go_enter Tryz.func65, Tryz.ntmps65
    go_wp2_with fail
    go_ret
    exact ⟨ret_val (by rw [hb']; simp [hx]), 0, rfl⟩
theorem ascii_low (t : ByteArray) (h : asciiB t = true) : ∀ i, i < t.size → (t.get! i).toNat < 128 := by
  intro i hi
  have h' : i < t.data.size := hi
  unfold asciiB at h
  rw [List.all_eq_true] at h
  have := h (t.data[i]) (by simp)
  simp at this
  have e : t.get! i = t.data[i] := by
    show t.data[i]! = _
    rw [getElem!_pos t.data i h']
  rw [e]
  omega
theorem joined_len (fs : List ByteArray) {L : List UInt8} (h : join (fs.map (·.data.toList)) [32] = L) {m : Nat} (hm : L.length ≤ m) : fs.length ≤ m + 1 := by
  cases fs with
  | nil => simp
  | cons x r =>
    rw [List.map_cons, join_cons] at h
    have := congrArg List.length h
    rw [List.length_append, joinTail_length] at this
    simp at this ⊢
    omega
set_option maxRecDepth 100000 in
set_option maxHeartbeats 1000000 in
theorem TRIM_any (a : Addr) (q : Nat → Nat) (t : ByteArray) (ht : t.size ≤ 1000) (ha : asciiB t = true) (w : World) (hch : Chain w 1 q [argOf ⟨2, 0, t⟩]) :
    Calls Tryz.prog 41 #[.pointer (some a), .pointer (some ⟨q 0, 0, none⟩)] w fun e w' => e = .returned (F.agg ⟨0, trimB t, false, ⟨#[]⟩, 2⟩) ∧ Below w.heap.size w w' := by
  obtain ⟨p1, p2, p3, p4, p5⟩ := hch
  obtain ⟨-, f', ef, p6⟩ := p5 0 (by omega)
  simp only [List.getElem?_cons_zero, Option.some.injEq] at ef
  subst ef
  have p7 := (p1 0 (by omega)).2.2.2
  rw [if_pos (by omega)] at p7
  have g0 := (p1 0 (by omega)).1
  have g1 := (p1 1 (by omega)).1
  simp only [Nat.zero_add] at p6 p7
  rw [show (((1 : Nat)) : Int) = 1 from rfl] at p3
  clear p1 p2 p4 p5
  generalize q 0 = L at *
  generalize q 1 = E at *
  clear q
  simp [argOf, F.agg] at p6
  have HJ := hide (fields_join t (ascii_low t ha))
  have HC := hide (fun w => trimClosure_any w)
  clear ha
  go_enter Tryz.func41, Tryz.ntmps41
  go_wp2_with (first
      | (go_at_call 52; refine (len_any L 1 _ ((World.cell?_alloc_lt _ _ _ g0).trans p3)).mono ?_; rintro e w1 ⟨rfl, rfl⟩)
      | (go_at_call 54; refine (front_any L E 1 (by omega) _ ((World.cell?_alloc_lt _ _ _ g0).trans p3) ((World.cell?_alloc_lt _ _ _ g0).trans p7)).mono ?_; rintro e w1 ⟨rfl, rfl⟩)
      | (go_at_call 56; refine (value_2 _ _ _ _ _).mono ?_; rintro e w1 ⟨rfl, hb1⟩; have hs1 := hb1.size))
  have hb01 : Below (w.heap.size + 1) (w.alloc (.cells #[.string ⟨#[]⟩, .float .f64 0, .string ⟨#[]⟩, .slice none 0 0, .slice none 0 0, .bool false, .string ⟨#[]⟩, .int .u8 0, .pointer none, .pointer none] 69)) w1 := hb1.mono (by simp)
  have hz1 : w.heap.size + 1 ≤ w1.heap.size := by have := hb01.size; simpa using this
  obtain ⟨fs, hfs⟩ : ∃ fs, goFieldsP blankR t = fs := ⟨_, rfl⟩
  have HF := hide (Tryz.strings_FieldsFunc_runes 65 #[] (enters_of Tryz.func65 (by kernel_rfl) rfl) blankR t w1 (by omega) (trimClosure_any w1).runes)
  rw [hfs] at HJ HF
  clear hfs hb1
  refine HF.out.mono ?_
  rintro e w2 ⟨A, rfl, hA, hown, hb2⟩
  have hlen := joined_len fs HJ.out (trimL_length _ _)
  have hAb : A < w2.heap.size := by
    rcases hown.2 with ⟨h, -⟩ | ⟨g, cap, cur, hv, hg, hh, hr⟩
    · cases h
    · injection hv with h
      injection h with h
      injection h with h
      subst h
      exact (Array.getElem?_eq_some_iff.1 hh).1
  have hcells : ∀ (j : Nat) x, fs[j]? = some x → w2.cell? ⟨A, 0 + j, none⟩ = some (.string x) := by
    intro j x hx
    have hj : j < fs.length := (List.getElem?_eq_some_iff.1 hx).1
    obtain ⟨g, e, -, hc⟩ := (Rd.of_own hown).2 (by omega)
    cases e
    rw [Nat.zero_add]
    exact hc j _ (by rw [List.getElem?_map, hx]; rfl)
  have HJn := hide (Tryz.strings_Join A 0 fs.length fs ⟨#[32]⟩ w2 hcells hAb (by omega) (Nat.le_refl _) (by show (join (fs.map (·.data.toList)) [32]).length ≤ _; rw [HJ.out]; have := trimL_length t.data.toList t.size; omega))
  have hb02 := hb01.trans (hb2.mono hz1)
  have hz2 : w1.heap.size ≤ w2.heap.size := hb2.size
  clear hown hcells hlen hAb hA hb2 HF hb01
  go_wp2_with fail
  refine HJn.out.mono ?_
  rintro e w3 ⟨rfl, hb3⟩
  have hs : (ByteArray.mk (join (fs.map (·.data.toList)) (ByteArray.mk #[32]).data.toList).toArray) = trimB t := by
    show ByteArray.mk (join (fs.map (·.data.toList)) [32]).toArray = _
    rw [HJ.out]
    rfl
  rw [hs]
  have hb03 := hb02.trans (hb3.mono (by omega))
  have hz3 : w2.heap.size ≤ w3.heap.size := hb3.size
  clear hs hb3 hb02 HJ HJn
  go_wp2_with fail
  refine (newString_any _ _).mono ?_
  rintro e w4 ⟨rfl, hb4⟩
  dsimp only [F.agg]
  have hB := hb03.trans (hb4.mono (by omega))
  obtain ⟨hc, hf, hz⟩ := own_cells hB
  have hbel : Below w.heap.size w w4 := (Below.alloc (Below.refl _ _) (Nat.le_refl _) _).trans (hB.mono (by omega))
  clear hB hb03 hb4
  go_wp2_with fail
  refine bodyPost_ret (v := F.agg ⟨0, trimB t, false, ⟨#[]⟩, 2⟩) ?_ rfl ⟨rfl, ?_⟩
  · simp [results, Tryz.results41, go_sem, F.agg, hc]
  · (repeat' (first | (with_reducible exact Below.refl _ _) | (with_reducible assumption) | (with_reducible refine Below.setCell ?_ ?_ _) | (with_reducible refine Below.alloc ?_ ?_ _) | (with_reducible refine Below.drew ?_) | (with_reducible refine below_drewN ?_ _) | (with_reducible refine Below.trans ?_ (Below.mono (by assumption) ?_)) | (simp <;> omega) | omega))
end Go.Proofs.YtemeamckdfnlfaaGreatDoor
