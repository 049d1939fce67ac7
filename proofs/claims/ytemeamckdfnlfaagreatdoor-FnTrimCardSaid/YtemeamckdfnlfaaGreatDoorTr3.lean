/- Contracts for the name TRIM, the reference's side: spec.First of texts, spec.texts, spec.ofText. -/
import Derived.Test.YtemeamckdfnlfaaGreatDoorTr2
import Derived.Test.YtemeamckdfnlfaaGreatDoorL3
import Derived.Test.YtemeamckdfnlfaaGreatDoorFi
import Derived.Test.YtemeamckdfnlfaaGreatDoorL5
namespace Go.Proofs.YtemeamckdfnlfaaGreatDoor
open Go Go.RowKit
theorem info9 : (Tryz.prog.info? 9).map (fun i => (i.zero, i.size, i.bytes)) = some (some (.string ⟨#[]⟩), 1, 16) := by kernel_rfl
theorem asTextV_k (t : ByteArray) : (asTextV t).k ≠ 4 ∧ (asTextV t).k ≠ 5 := by
  unfold asTextV
  split <;> simp
theorem unsure_asText (t : ByteArray) : unsure [asTextV t] = !asciiB t := by
  unfold asTextV unsure
  cases asciiB t <;> simp
/-- The texts of a list of one text: itself, or nothing is said. -/
def RetTexts (t : ByteArray) (w : World) (e : Ending) (w' : World) : Prop := Below w.heap.size w w' ∧
  ((asciiB t = true ∧ ∃ (g c' : Nat), e = .returned (.tuple #[.slice (some ⟨g, 0, none⟩) 1 c', .agg #[.int .i64 0, .int .i64 0, .int .i64 0, .string ⟨#[]⟩, .slice none 0 0], .bool true]) ∧ g < w'.heap.size ∧ w'.cell? ⟨g, 0, none⟩ = some (.string t)) ∨
   (asciiB t = false ∧ ∃ (m d : Int) (s : ByteArray), e = .returned (.tuple #[.slice none 0 0, .agg #[.int .i64 6, .int .i64 m, .int .i64 d, .string s, .slice none 0 0], .bool false])))
set_option maxRecDepth 100000 in
set_option maxHeartbeats 2000000 in
theorem texts_one (t : ByteArray) (ht : t.size ≤ 1000) (A : Option Addr) (c : Nat) (w : World) (hr : Rd w w.heap.size 5 A 1 (cellsV [⟨2, 0, 0, t⟩])) :
    Calls Tryz.prog 207 #[.slice A 1 c] w (RetTexts t w) := by
  obtain ⟨i0, hi, hz0, hz1, hz2⟩ := info_parts info27
  obtain ⟨j0, hj, hy0, hy1, hy2⟩ := info_parts info9
  obtain ⟨g, rfl, hg, h0, h1, h2, h3, h4⟩ := rdV1 hr
  obtain ⟨⟨vk, vn, vd, vt⟩, hV⟩ : ∃ v, asTextV t = v := ⟨_, rfl⟩
  have HA := hide (asText_text t ht)
  have HVK := hide (asTextV_k t)
  have HU := hide (unsure_asText t)
  rw [hV] at HA HVK HU
  have HV := hide hV
  clear hr hV
  go_enter Tryz.func207, Tryz.ntmps207
  go_wp2_with fail
  go_loopw [5, 6] (fun v i wr => (i = .int .i64 0 ∧ v = .slice none 0 0 ∧ (w.alloc (.cells #[.int .i64 0, .int .i64 0, .int .i64 0, .string ⟨#[]⟩, .slice none 0 0] 27)) = wr) ∨ (i = .int .i64 1 ∧ Hid (wr.ownsRow (w.heap.size + 1) 27 5 v 1 (cellsV [⟨vk, vn, vd, vt⟩])) ∧ Below (w.heap.size + 1) (w.alloc (.cells #[.int .i64 0, .int .i64 0, .int .i64 0, .string ⟨#[]⟩, .slice none 0 0] 27)) wr)) (fun _ i _ => 1 - (intOf i).toNat)
  case atStart => exact .inl ⟨rfl, rfl, rfl⟩
  case round =>
    rcases hrel with ⟨rfl, rfl, rfl⟩ | ⟨rfl, hown, hb⟩
    · go_wp2_with (first
        | (go_at_call 148; refine (HA.out _).mono ?_; rintro e w1 ⟨rfl, hb1⟩; have hs1 := hb1.size)
        | (at_builtin; refine wpList_append_any _ rfl (.tmp 17) (.tmp 23) _ rfl (w.heap.size + 1) 27 i0 _ 5 64 Tryz.underlying29 hi hz0 hz1 hz2 rfl (by omega) (.slice none 0 0) 0 [] rfl ⟨by simp, .inl ⟨rfl, rfl⟩⟩ (w1.heap.size + 1) (some ⟨w1.heap.size, 0, none⟩) 1 1 [.int .i64 vk, .int .i64 vn, .int .i64 vd, .string vt, .slice none 0 0] rfl (reads_new w1 27 #[.int .i64 vk, .int .i64 vn, .int .i64 vd, .string vt, .slice none 0 0] 5 1 rfl) (by simp [Value.oneCell']) (by unfold maxLen; omega) (by omega) (by simp at hs1 ⊢; omega) ?_; intro v' w' hown' hgrow hloc))
      go_roundw
      case rel => exact .inr ⟨rfl, hide (by simpa [cellsV, V.cells] using hown'), ((hb1.mono (by simp)).alloc (by simp at hs1; omega) _).grown hgrow (by simp at hs1 ⊢; omega) (by simp [Value.ownBlock])⟩
      case measure => simp [intOf]
    · obtain ⟨A1, c1, rfl⟩ := own_slice hown.out
      have HR := hide (Rd.of_own hown.out)
      clear hown
      go_wp2_with fail
      refine (first_any [⟨vk, vn, vd, vt⟩] (by intro u hu; simp at hu; subst hu; exact HVK.out) A1 1 c1 (by omega) _ HR.out).mono ?_
      rintro e w2 ⟨k, m, d, s, b, hu, hk6, rfl, hb2⟩
      have hB : Below (w.heap.size + 1) (w.alloc (.cells #[.int .i64 0, .int .i64 0, .int .i64 0, .string ⟨#[]⟩, .slice none 0 0] 27)) w2 := hb.trans (hb2.mono (by have := hb.size; simpa using this))
      obtain ⟨hc2, hf2, hz2⟩ := own_cells hB
      have hbel : Below w.heap.size w w2 := (Below.alloc (Below.refl _ _) (Nat.le_refl _) _).trans (hB.mono (by omega))
      have HR2 := hide ((HR.out.below hb2).more hb2.size)
      have HU2 : Hid (b = !asciiB t) := hide (by rw [← hu]; exact HU.out)
      have HK6 := hide hk6
      have hB2 := hide hB
      clear hb hb2 hu hk6 hB HR
      cases b
      · have ha : asciiB t = true := by have := HU2.out; cases h : asciiB t <;> simp [h] at this ⊢
        have HVT : Hid (vt = t) := by
          have := HV.out
          unfold asTextV at this
          rw [ha] at this
          simp only [if_true] at this
          cases this
          exact hide rfl
        have HAs := hide ha
        clear ha
        obtain ⟨g1, k1, m1, d1, s1, rfl, hg1, hv, a0, a1, a2, a3, a4⟩ := rdV HR2.out 0 (by omega)
        simp only [List.getElem?_cons_zero, Option.some.injEq, V.mk.injEq] at hv
        obtain ⟨rfl, rfl, rfl, rfl⟩ := hv
        clear HR2
        simp only [Nat.zero_mul, Nat.zero_add] at a0 a1 a2 a3 a4
        go_wp2_with fail
        go_loopw [9, 10] (fun o i wr => (i = .int .i64 0 ∧ o = .slice none 0 0 ∧ w2.alloc (.cells #[.int .i64 k, .int .i64 m, .int .i64 d, .string s, .slice none 0 0] 27) = wr) ∨ (i = .int .i64 1 ∧ Hid (wr.ownsRow (w.heap.size + 1) 9 1 o 1 [.string vt]) ∧ Below (w.heap.size + 1) (w.alloc (.cells #[.int .i64 0, .int .i64 0, .int .i64 0, .string ⟨#[]⟩, .slice none 0 0] 27)) wr)) (fun _ i _ => 1 - (intOf i).toNat)
        case atStart => exact .inl ⟨rfl, rfl, rfl⟩
        case round =>
          rcases hrel with ⟨rfl, rfl, rfl⟩ | ⟨rfl, hown, hb⟩
          · go_wp2_with (at_builtin; refine wpList_append_any _ rfl (.tmp 38) (.tmp 44) _ rfl (w.heap.size + 1) 9 j0 _ 1 16 Tryz.underlying39 hj hy0 hy1 hy2 rfl (by omega) (.slice none 0 0) 0 [] rfl ⟨by simp, .inl ⟨rfl, rfl⟩⟩ (w2.heap.size + 2) (some ⟨w2.heap.size + 1, 0, none⟩) 1 1 [.string vt] rfl (reads_new_at (w2.alloc _) (w2.heap.size + 1) (by simp) 9 #[.string vt] 1 1 rfl) (by simp [Value.oneCell']) (by unfold maxLen; omega) (by omega) (by simp; omega) ?_; intro v' w' hown' hgrow hloc)
            go_roundw
            case rel => exact .inr ⟨rfl, hide (by simpa using hown'), ((hB2.out.alloc (by omega) _).alloc (by simp; omega) _).grown hgrow (by simp; omega) (by simp [Value.ownBlock])⟩
            case measure => simp [intOf]
          · obtain ⟨A3, c3, rfl⟩ := own_slice hown.out
            have HR3 := hide (Rd.of_own hown.out)
            obtain ⟨g3, rfl, hg3, hcell⟩ := HR3.out.2 (by omega)
            have hcell3 := hcell 0 _ rfl
            obtain ⟨hc3, hf3, hz3⟩ := own_cells hb
            have hbel3 : Below w.heap.size w wr := (Below.alloc (Below.refl _ _) (Nat.le_refl _) _).trans (hb.mono (by omega))
            have hg3' : w.heap.size + 1 ≤ g3 := own_ge hown.out g3 (by simp [Value.ownBlock])
            rw [HVT.out] at hcell3
            clear hown HR3 hcell hb
            go_wp2_with fail
            refine bodyPost_ret (v := .tuple #[.slice (some ⟨g3, 0, none⟩) 1 c3, .agg #[.int .i64 0, .int .i64 0, .int .i64 0, .string ⟨#[]⟩, .slice none 0 0], .bool true]) ?_ rfl ⟨?_, .inl ⟨HAs.out, g3, c3, rfl, ?_, ?_⟩⟩
            · simp [results, Tryz.results207, go_sem, hc3]
            · (repeat' (first | (with_reducible exact Below.refl _ _) | (with_reducible assumption) | (with_reducible refine Below.setCell ?_ ?_ _) | (with_reducible refine Below.alloc ?_ ?_ _) | (with_reducible refine Below.drew ?_) | (with_reducible refine below_drewN ?_ _) | (with_reducible refine Below.trans ?_ (Below.mono (by assumption) ?_)) | (simp <;> omega) | omega))
            · simpa using hg3
            · have hne : ∀ o, (⟨w.heap.size, o, none⟩ : Addr) ≠ ⟨g3, 0, none⟩ := fun o e => by
                injection e
                omega
              rw [World.cell?_setCell_other _ _ _ _ (hne _), World.cell?_setCell_other _ _ _ _ (hne _), World.cell?_setCell_other _ _ _ _ (hne _), World.cell?_setCell_other _ _ _ _ (hne _), World.cell?_setCell_other _ _ _ _ (hne _)]
              exact hcell3
      · have ha : asciiB t = false := by have := HU2.out; cases h : asciiB t <;> simp [h] at this ⊢
        have HAs := hide ha
        clear ha
        have hk := HK6.out rfl
        subst hk
        go_wp2_with fail
        go_region
        all_goals (try (go_wp2_with fail))
        all_goals
          refine bodyPost_ret (v := .tuple #[.slice none 0 0, .agg #[.int .i64 6, .int .i64 m, .int .i64 d, .string s, .slice none 0 0], .bool false]) ?_ rfl ⟨?_, .inr ⟨HAs.out, m, d, s, rfl⟩⟩
          · simp [results, Tryz.results207, go_sem, hc2, hz2]
          · (repeat' (first | (with_reducible exact Below.refl _ _) | (with_reducible assumption) | (with_reducible refine Below.setCell ?_ ?_ _) | (with_reducible refine Below.alloc ?_ ?_ _) | (with_reducible refine Below.drew ?_) | (with_reducible refine below_drewN ?_ _) | (with_reducible refine Below.trans ?_ (Below.mono (by assumption) ?_)) | (simp <;> omega) | omega))
end Go.Proofs.YtemeamckdfnlfaaGreatDoor
