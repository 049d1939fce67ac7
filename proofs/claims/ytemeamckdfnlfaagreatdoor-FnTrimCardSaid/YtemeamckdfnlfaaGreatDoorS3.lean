/- Contracts: spec.lower, spec.other: a text comes back; an error or Unsure comes back. -/
import Derived.Test.YtemeamckdfnlfaaGreatDoorS2
import Derived.Deep.LoopGhost
namespace Go.Proofs.YtemeamckdfnlfaaGreatDoor
open Go Go.RowKit

theorem byte_of (d : Int) (h0 : 0 ≤ d) (h1 : d ≤ 255) : ∃ u : UInt8, (u.toNat : Int) = d :=
  ⟨UInt8.ofNat d.toNat, by simp; omega⟩

/-- The array C holds the bytes l, and perhaps more behind them. -/
def Bytes8 (C : Array Value) (l : List UInt8) : Prop := ∀ j (hj : j < l.length), C[j]? = some (.int .u8 (l[j].toNat : Int))
theorem Bytes8.set {C : Array Value} {l : List UInt8} (h : Bytes8 C l) (k : Nat) (u : UInt8) : Bytes8 (C.setIfInBounds k (.int .u8 (u.toNat : Int))) (l.set k u) := by
  intro j hj
  have hj' : j < l.length := by simpa using hj
  by_cases e : k = j
  · subst e
    have hC : k < C.size := by
      rcases Nat.lt_or_ge k C.size with h1 | h1
      · exact h1
      · have := h k hj'; rw [Array.getElem?_eq_none h1] at this; cases this
    simp [hC]
  · rw [Array.getElem?_setIfInBounds, if_neg e, h j hj', List.getElem_set_ne e]

theorem setCell_alloc_mark (w : World) (C : Array Value) (t : TypeId) (fr : Nat × Nat) (i : Nat) (v : Value) :
    (w.alloc (.cells C t fr)).setCell ⟨w.heap.size, i, none⟩ v = w.alloc (.cells (C.setIfInBounds i v) t fr) := by
  unfold World.setCell World.alloc
  congr 1
  apply Array.ext_getElem?
  intro k
  rw [Array.getElem?_modify]
  by_cases hk : w.heap.size = k
  · subst hk
    simp
  · rw [if_neg hk, Array.getElem?_push, Array.getElem?_push, if_neg (fun h => hk h.symm), if_neg (fun h => hk h.symm)]

set_option maxHeartbeats 400000 in
theorem lower_any (s : ByteArray) (hs : s.size ≤ 1000) (w : World) : Calls Tryz.prog 181 #[.string s] w (SomeText w) := by
  obtain ⟨C, cap, hconv, hC, hN⟩ : ∃ (C : Array Value) (cap : Nat), (convert 9 123 (.string s)).run Tryz.prog w = .ok (.slice (some ⟨w.heap.size, 0, none⟩) s.size cap) (w.drew.alloc (.cells C 5 (C.size, C.size + 1))) ∧ Bytes8 C s.data.toList ∧ s.size ≤ C.size :=
    ⟨_, _, run_bytes_of_string (P := Tryz.prog) w 9 123 5 s Tryz.underlying9 Tryz.underlying123 Tryz.underlying5, fun j hj => by
      have hj' : j < s.data.size := by simpa using hj
      rw [bytesRow_at s _ j hj']; simp, by unfold bytesRow; simp⟩
  obtain ⟨N, hNe⟩ : ∃ N, N = C.size := ⟨_, rfl⟩
  rw [← hNe] at hconv
  have HC := hide hC
  have HN := hide hNe
  have HNs := hide hN
  clear hC hNe hN
  go_enter Tryz.func181, Tryz.ntmps181
  go_wp2_with fail
  go_loopw [4] (fun i wr => ∃ (k : Nat) (C' : Array Value) (l : List UInt8), k ≤ s.size ∧ i = .int .i64 k ∧ wr = (w.alloc (.cells C' 5 (N, N + 1))).drew ∧ Hid (l.length = s.size) ∧ Hid (Bytes8 C' l) ∧ Hid (C'.size = N)) (fun i _ => s.size - (intOf i).toNat)
  case atStart => exact ⟨0, C, s.data.toList, Nat.zero_le _, rfl, rfl, by unfold Hid; simp, HC, HN.symm⟩
  case round =>
    obtain ⟨k, C', l, hk, rfl, rfl, hl, hB, hCs⟩ := hrel
    by_cases hlt : k < s.size
    · have hkl : k < l.length := by rw [hl.out]; exact hlt
      have hck : (w.alloc (.cells C' 5 (N, N + 1))).cell? ⟨w.heap.size, k, none⟩ = some (.int .u8 (l[k].toNat : Int)) := by rw [World.cell?_alloc_mark]; exact hB.out k hkl
      have hfk : (w.alloc (.cells C' 5 (N, N + 1))).frozen? ⟨w.heap.size, k, none⟩ = false := by
        have h1 := HNs.out; have h2 := HN.out
        rw [World.frozen?_alloc_mark]; simp; omega
      have hb := l[k].toNat_lt
      go_wp2_with (go_at_call 204; refine (low_any _ (by omega) (by omega) _).mono ?_; rintro e w1 ⟨rfl, rfl⟩)
      go_roundw
      case rel =>
        obtain ⟨u, hu⟩ := byte_of (lowI (l[k].toNat : Int)) (lowI_bd _ (by omega) (by omega)).1 (lowI_bd _ (by omega) (by omega)).2
        refine ⟨k + 1, C'.setIfInBounds k (.int .u8 (u.toNat : Int)), l.set k u, by omega, by go_num, ?_, ?_, hide (hB.out.set k u), ?_⟩
        · rw [← hu, setCell_alloc_mark]
        · exact hide (by rw [List.length_set]; exact hl.out)
        · exact hide (by rw [Array.size_setIfInBounds]; exact hCs.out)
      case measure => simp [intOf]; omega
    · obtain rfl : k = s.size := by omega
      have hback : (convert 123 9 (.slice (some ⟨w.heap.size, 0, none⟩) s.size cap)).run Tryz.prog (w.alloc (.cells C' 5 (N, N + 1))).drew = .ok (.string ⟨l.toArray⟩) (w.alloc (.cells C' 5 (N, N + 1))).drew := by
        have := run_convert_bytes_back (P := Tryz.prog) (w.alloc (.cells C' 5 (N, N + 1))).drew 123 9 5 ⟨w.heap.size, 0, none⟩ cap l Tryz.underlying123 Tryz.underlying5 Tryz.underlying9 (fun j hj => by
          rw [Addr.add_lit, Nat.zero_add]
          exact (World.cell?_alloc_mark w C' 5 (N, N + 1) j).trans (hB.out j hj))
        rwa [hl.out] at this
      clear hl hB hCs HC HN HNs hconv
      go_wp2_with fail
      go_ret
      exact ⟨_, rfl, by (repeat' (first | (with_reducible exact Below.refl _ _) | (with_reducible assumption) | (with_reducible refine Below.setCell ?_ ?_ _) | (with_reducible refine Below.alloc ?_ ?_ _) | (with_reducible refine Below.drew ?_) | (with_reducible refine below_drewN ?_ _) | (with_reducible refine Below.trans ?_ (Below.mono (by assumption) ?_)) | (simp <;> omega) | omega))⟩

theorem text_of (t : ByteArray) (l : List UInt8) (h : t.toList = l) : t = ⟨l.toArray⟩ := by
  obtain ⟨d⟩ := t
  obtain ⟨d⟩ := d
  have e : ByteArray.toList ⟨⟨d⟩⟩ = d := by rw [ByteArray.toList_eq]
  rw [e] at h
  rw [h]
theorem eq_false_of (t : ByteArray) (l : List UInt8) (h : ¬ t = ⟨l.toArray⟩) : (t.toList == l) = false := by
  rw [beq_eq_false_iff_ne]
  exact fun e => h (text_of t l e)
/-- The texts that are named in spec.other, and all others. -/
theorem names_split (t : ByteArray) : t = ⟨#[]⟩ ∨ t = ⟨#[101]⟩ ∨ t = ⟨#[110, 97, 110]⟩ ∨ t = ⟨#[105, 110, 102]⟩ ∨ t = ⟨#[105, 110, 102, 105, 110, 105, 116, 121]⟩ ∨ t = ⟨#[116, 114, 117, 101]⟩ ∨ t = ⟨#[102, 97, 108, 115, 101]⟩ ∨ t = ⟨#[97, 109]⟩ ∨ t = ⟨#[112, 109]⟩ ∨ t = ⟨#[97]⟩ ∨ t = ⟨#[112]⟩ ∨ (t.toList.isEmpty = false ∧ (t.toList == [101]) = false ∧ (t.toList == [110, 97, 110]) = false ∧ (t.toList == [105, 110, 102]) = false ∧ (t.toList == [105, 110, 102, 105, 110, 105, 116, 121]) = false ∧ (t.toList == [116, 114, 117, 101]) = false ∧ (t.toList == [102, 97, 108, 115, 101]) = false ∧ (t.toList == [97, 109]) = false ∧ (t.toList == [112, 109]) = false ∧ (t.toList == [97]) = false ∧ (t.toList == [112]) = false) := by
  by_cases h0 : t = ⟨#[]⟩
  · exact Or.inl h0
  by_cases h1 : t = ⟨#[101]⟩
  · exact Or.inr (Or.inl h1)
  by_cases h2 : t = ⟨#[110, 97, 110]⟩
  · exact Or.inr (Or.inr (Or.inl h2))
  by_cases h3 : t = ⟨#[105, 110, 102]⟩
  · exact Or.inr (Or.inr (Or.inr (Or.inl h3)))
  by_cases h4 : t = ⟨#[105, 110, 102, 105, 110, 105, 116, 121]⟩
  · exact Or.inr (Or.inr (Or.inr (Or.inr (Or.inl h4))))
  by_cases h5 : t = ⟨#[116, 114, 117, 101]⟩
  · exact Or.inr (Or.inr (Or.inr (Or.inr (Or.inr (Or.inl h5)))))
  by_cases h6 : t = ⟨#[102, 97, 108, 115, 101]⟩
  · exact Or.inr (Or.inr (Or.inr (Or.inr (Or.inr (Or.inr (Or.inl h6))))))
  by_cases h7 : t = ⟨#[97, 109]⟩
  · exact Or.inr (Or.inr (Or.inr (Or.inr (Or.inr (Or.inr (Or.inr (Or.inl h7)))))))
  by_cases h8 : t = ⟨#[112, 109]⟩
  · exact Or.inr (Or.inr (Or.inr (Or.inr (Or.inr (Or.inr (Or.inr (Or.inr (Or.inl h8))))))))
  by_cases h9 : t = ⟨#[97]⟩
  · exact Or.inr (Or.inr (Or.inr (Or.inr (Or.inr (Or.inr (Or.inr (Or.inr (Or.inr (Or.inl h9)))))))))
  by_cases h10 : t = ⟨#[112]⟩
  · exact Or.inr (Or.inr (Or.inr (Or.inr (Or.inr (Or.inr (Or.inr (Or.inr (Or.inr (Or.inr (Or.inl h10))))))))))
  exact Or.inr (Or.inr (Or.inr (Or.inr (Or.inr (Or.inr (Or.inr (Or.inr (Or.inr (Or.inr (Or.inr (⟨by simpa using eq_false_of t [] h0, eq_false_of t _ h1, eq_false_of t _ h2, eq_false_of t _ h3, eq_false_of t _ h4, eq_false_of t _ h5, eq_false_of t _ h6, eq_false_of t _ h7, eq_false_of t _ h8, eq_false_of t _ h9, eq_false_of t _ h10⟩)))))))))))

/-- spec.other: an error or Unsure. -/
def RetOther (w : World) (e : Ending) (w' : World) : Prop := ∃ (k : Int) (t : ByteArray), (k = 4 ∨ k = 6) ∧ e = .returned (.agg #[.int .i64 k, .int .i64 0, .int .i64 0, .string t, .slice none 0 0]) ∧ Below w.heap.size w w'
set_option maxHeartbeats 1000000 in
theorem other_any (s : ByteArray) (hs : s.size ≤ 1000) (w : World) : Calls Tryz.prog 225 #[.string s] w (RetOther w) := by
  go_enter Tryz.func225, Tryz.ntmps225
  go_wp2_with fail
  go_loopw [3, 4] (fun i c wr => ∃ (k : Nat), k ≤ s.size ∧ i = .int .i64 k ∧ wr = w.alloc (.cells #[.int .i64 0, .int .i64 0, .int .i64 0, .string ⟨#[]⟩, .slice none 0 0] 27)) (fun i _ _ => s.size - (intOf i).toNat)
  case atStart => exact ⟨0, Nat.zero_le _, rfl, rfl⟩
  case round =>
    obtain ⟨k, hk, rfl, rfl⟩ := hrel
    by_cases hlt : k < s.size
    · have hb8 := s[k].toNat_lt
      have hlb := lowI_bd (s[k].toNat : Int) (by omega) (by omega)
      go_wp2_with (first
        | (go_at_call 204; refine (low_any _ (by omega) (by omega) _).mono ?_; rintro e w1 ⟨rfl, rfl⟩)
        | (go_at_call 43; refine (doubt_any _).mono ?_; rintro e w1 ⟨rfl, hb⟩; obtain ⟨hc, hf⟩ := bcell hb; have hz : w.heap.size < w1.heap.size := by (have := hb.size; first | omega | (simp at this; omega))))
      all_goals first
        | (go_roundw
           case rel => exact ⟨k + 1, by omega, by go_num, by first | rfl | trivial⟩
           case measure => simp [intOf]; omega)
        | (refine bodyPost_ret (v := .agg #[.int .i64 6, .int .i64 0, .int .i64 0, .string ⟨#[]⟩, .slice none 0 0]) (by simp [results, Tryz.results225, go_sem, hc]) rfl ⟨6, ⟨#[]⟩, .inr rfl, rfl, ?_⟩
           (repeat' (first | (with_reducible exact Below.refl _ _) | (with_reducible assumption) | (with_reducible refine Below.setCell ?_ ?_ _) | (with_reducible refine Below.alloc ?_ ?_ _) | (with_reducible refine Below.drew ?_) | (with_reducible refine below_drewN ?_ _) | (with_reducible refine Below.trans ?_ (Below.mono (by assumption) ?_)) | (simp <;> omega) | omega)))
    · obtain rfl : k = s.size := by omega
      have hlt' : ¬ ((s.size : Int) < (s.size : Int)) := by omega
      clear hlt
      go_wp2_with fail
      refine (lower_any s hs _).mono ?_
      rintro e w1 ⟨t, rfl, hb⟩
      obtain ⟨hc, hf⟩ := bcell hb
      have hz : w.heap.size < w1.heap.size := by (have := hb.size; first | omega | (simp at this; omega))
      rcases names_split t with rfl | rfl | rfl | rfl | rfl | rfl | rfl | rfl | rfl | rfl | rfl | ⟨q0, q1, q2, q3, q4, q5, q6, q7, q8, q9, q10⟩
      all_goals
        go_wp2_with (first
          | (go_at_call 181; refine (lower_any s hs _).mono ?_; rintro e w2 ⟨t2, rfl, hb2⟩; obtain ⟨hc2, hf2⟩ := bcell hb2; have hz2 : w.heap.size < w2.heap.size := by (have := hb2.size; first | omega | (simp at this; omega)))
          | (go_at_call 236; go_must (refine (month_any _ _).mono ?_);  rintro e w3 ⟨b3, rfl, hb3⟩; obtain ⟨hc3, hf3⟩ := bcell hb3; go_must (have hz3 : w.heap.size < w3.heap.size := by (have := hb3.size; omega)); go_must (cases b3))
          | (go_at_call 43; refine (doubt_any _).mono ?_; rintro e w4 ⟨rfl, hb4⟩; obtain ⟨hc4, hf4⟩ := bcell hb4; have hz4 : w.heap.size < w4.heap.size := by (have := hb4.size; first | omega | (simp at this; omega)))
          | (go_at_call 27; refine (err_any _ _).mono ?_; rintro e w4 ⟨rfl, hb4⟩; obtain ⟨hc4, hf4⟩ := bcell hb4; have hz4 : w.heap.size < w4.heap.size := by (have := hb4.size; first | omega | (simp at this; omega))))
      all_goals
        first
          | (refine bodyPost_ret (v := .agg #[.int .i64 6, .int .i64 0, .int .i64 0, .string ⟨#[]⟩, .slice none 0 0]) ?_ rfl ⟨6, ⟨#[]⟩, .inr rfl, rfl, ?_⟩
             · simp [results, Tryz.results225, go_sem, *]; done
             · (repeat' (first | (with_reducible exact Below.refl _ _) | (with_reducible assumption) | (with_reducible refine Below.setCell ?_ ?_ _) | (with_reducible refine Below.alloc ?_ ?_ _) | (with_reducible refine Below.drew ?_) | (with_reducible refine below_drewN ?_ _) | (with_reducible refine Below.trans ?_ (Below.mono (by assumption) ?_)) | (simp <;> omega) | omega)))
          | (refine bodyPost_ret (v := .agg #[.int .i64 4, .int .i64 0, .int .i64 0, .string ⟨#[35, 86, 65, 76, 85, 69, 33]⟩, .slice none 0 0]) ?_ rfl ⟨4, _, .inl rfl, rfl, ?_⟩
             · simp [results, Tryz.results225, go_sem, *]; done
             · (repeat' (first | (with_reducible exact Below.refl _ _) | (with_reducible assumption) | (with_reducible refine Below.setCell ?_ ?_ _) | (with_reducible refine Below.alloc ?_ ?_ _) | (with_reducible refine Below.drew ?_) | (with_reducible refine below_drewN ?_ _) | (with_reducible refine Below.trans ?_ (Below.mono (by assumption) ?_)) | (simp <;> omega) | omega)))
end Go.Proofs.YtemeamckdfnlfaaGreatDoor
