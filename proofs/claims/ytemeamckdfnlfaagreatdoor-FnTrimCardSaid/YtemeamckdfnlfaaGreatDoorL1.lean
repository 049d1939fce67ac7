/- Contracts of the laws' own helpers: spec.Flat, spec.Table, spec.Str, laws.doubtful, laws.shortTexts. -/
import Derived.Test.YtemeamckdfnlfaaGreatDoorNo
namespace Go.Proofs.YtemeamckdfnlfaaGreatDoor
open Go Go.RowKit
theorem info27 : (Tryz.prog.info? 27).map (fun i => (i.zero, i.size, i.bytes)) = some (some (.agg #[.int .i64 0, .int .i64 0, .int .i64 0, .string ⟨#[]⟩, .slice none 0 0]), 5, 64) := by kernel_rfl
theorem info47 : (Tryz.prog.info? 47).map (fun i => (i.zero, i.size, i.bytes)) = some (some (.agg #[.int .i64 0, .float .f64 0, .string ⟨#[]⟩, .slice none 0 0]), 4, 56) := by kernel_rfl
theorem info53 : (Tryz.prog.info? 53).map (fun i => (i.zero, i.size, i.bytes)) = some (some (.agg #[.int .i64 0, .float .f64 0, .string ⟨#[]⟩, .slice none 0 0]), 4, 56) := by kernel_rfl
#print axioms info27
theorem reads_new (w : World) (t : TypeId) (cs : Array Value) (size n : Nat) (h : cs.size = n * size) : Reads (w.alloc (.cells cs t)) (w.heap.size + 1) size (some ⟨w.heap.size, 0, none⟩) n cs.toList :=
  ⟨by simpa using h, fun _ => ⟨_, rfl, by simp, fun j u hu => by
    rw [Addr.add_lit, Nat.zero_add]
    exact (World.cell?_alloc_mark w cs t (0, 0) j).trans (by simpa using hu)⟩⟩
theorem own_ge {w : World} {base : Nat} {e : TypeId} {size n : Nat} {v : Value} {xs : List Value} (h : w.ownsRow base e size v n xs) : ∀ k, v.ownBlock = some k → base ≤ k := by
  intro k hk
  rcases h.2 with ⟨rfl, _⟩ | ⟨g, cap, cur, rfl, hb, _⟩
  · simp [Value.ownBlock] at hk
  · simp [Value.ownBlock] at hk
    omega
theorem own_slice {w : World} {base : Nat} {e : TypeId} {size n : Nat} {v : Value} {xs : List Value} (h : w.ownsRow base e size v n xs) : ∃ A c, v = .slice A n c := by
  rcases h.2 with ⟨rfl, rfl⟩ | ⟨g, cap, cur, rfl, _⟩
  · exact ⟨none, 0, rfl⟩
  · exact ⟨_, _, rfl⟩
theorem cellsV_one (vs : List V) : ∀ u ∈ cellsV vs, u.oneCell' = true := by
  intro u hu
  unfold cellsV at hu
  rw [List.mem_flatMap] at hu
  obtain ⟨v, -, hv⟩ := hu
  simp [V.cells] at hv
  rcases hv with rfl | rfl | rfl | rfl | rfl <;> rfl
/-- None of the values holds rows. -/
def Plain (vs : List V) : Prop := ∀ v ∈ vs, v.k ≠ 5

set_option maxRecDepth 100000 in
set_option maxHeartbeats 1000000 in
theorem flat_any (vs : List V) (hp : Plain vs) (A : Option Addr) (n c : Nat) (hn : n ≤ 1000) (w : World) (hr : Rd w w.heap.size 5 A n (cellsV vs)) :
    Calls Tryz.prog 32 #[.slice A n c] w fun e w' => ∃ A' c', e = .returned (.slice A' n c') ∧ w'.ownsRow w.heap.size 27 5 (.slice A' n c') n (cellsV vs) ∧ Below w.heap.size w w' := by
  obtain ⟨i0, hi, hz0, hz1, hz2⟩ := info_parts info27
  have HR := hide hr
  have HP := hide hp
  have hl : vs.length = n := by have := hr.1; rw [cellsV_length] at this; omega
  clear hr hp
  go_enter Tryz.func32, Tryz.ntmps32
  go_wp2_with fail
  go_loopw [3, 4] (fun v i wr => ∃ k : Nat, k ≤ n ∧ i = .int .i64 k ∧ Hid (wr.ownsRow w.heap.size 27 5 v k (cellsV (vs.take k))) ∧ Below w.heap.size w wr) (fun _ i _ => n - (intOf i).toNat)
  case atStart => exact ⟨0, by omega, rfl, hide ⟨by simp [cellsV], .inl ⟨rfl, rfl⟩⟩, Below.refl _ _⟩
  case round =>
    obtain ⟨k, hk, rfl, hown, hb⟩ := hrel
    by_cases hlt : k < n
    · obtain ⟨g, kk, m, d, t, rfl, hg, hv, h0, h1, h2, h3, h4⟩ := rdV (HR.out.below hb) k hlt
      have hkk : kk ≠ 5 := HP.out _ (List.mem_of_getElem? hv)
      have hz := hb.size
      have HV := hide hv
      clear hv
      go_wp2_with (at_builtin; refine wpList_append_any _ rfl (.tmp 18) (.tmp 23) _ rfl w.heap.size 27 i0 _ 5 64 Tryz.underlying29 hi hz0 hz1 hz2 rfl (by omega) _ k _ rfl (hown.out.alloc _) (wr.heap.size + 1) (some ⟨wr.heap.size, 0, none⟩) 1 1 [.int .i64 kk, .int .i64 m, .int .i64 d, .string t, .slice none 0 0] rfl (reads_new wr 27 #[.int .i64 kk, .int .i64 m, .int .i64 d, .string t, .slice none 0 0] 5 1 rfl) (by simp [Value.oneCell']) (by unfold maxLen; omega) (by omega) (by simp; omega) ?_; intro v' w' hown' hgrow hloc)
      go_roundw
      case rel => 
        refine ⟨k + 1, by omega, by go_num, hide ?_, ?_⟩
        · rw [List.take_add_one, HV.out]
          simpa [cellsV_snoc, V.cells] using hown'
        · exact (hb.alloc hz _).grown hgrow (by simp; omega) (own_ge hown.out)
      case measure => simp [intOf]; omega
    · obtain rfl : k = n := by omega
      go_wp2_with fail
      go_ret
      obtain ⟨A', c', rfl⟩ := own_slice hown.out
      refine ⟨A', c', rfl, ?_, hb⟩
      have e : vs.take vs.length = vs := List.take_length
      have h' := hown.out
      rwa [← hl, e, hl] at h'
/-- A list that holds one value, of the kind Table, whose one row is the list A. -/
def TableAt (w : World) (B : Nat) (D : Option Addr) (A : Option Addr) (n c : Nat) : Prop :=
  ∃ g0 g1 c1, D = some ⟨g0, 0, none⟩ ∧ g0 < B ∧ g1 < B ∧ w.cell? ⟨g0, 0, none⟩ = some (.int .i64 5) ∧ w.cell? ⟨g0, 1, none⟩ = some (.int .i64 0) ∧ w.cell? ⟨g0, 2, none⟩ = some (.int .i64 0) ∧
    w.cell? ⟨g0, 3, none⟩ = some (.string ⟨#[]⟩) ∧ w.cell? ⟨g0, 4, none⟩ = some (.slice (some ⟨g1, 0, none⟩) 1 c1) ∧ w.cell? ⟨g1, 0, none⟩ = some (.slice A n c)
theorem TableAt.below {w w' : World} {B : Nat} {D A : Option Addr} {n c : Nat} (h : TableAt w B D A n c) (hb : Below B w w') : TableAt w' B D A n c := by
  obtain ⟨g0, g1, c1, e, l0, l1, h0, h1, h2, h3, h4, h5⟩ := h
  have k := fun (g o : Nat) (hg : g < B) => hb.cell (p := ⟨g, o, none⟩) hg
  exact ⟨g0, g1, c1, e, l0, l1, (k g0 0 l0).trans h0, (k g0 1 l0).trans h1, (k g0 2 l0).trans h2, (k g0 3 l0).trans h3, (k g0 4 l0).trans h4, (k g1 0 l1).trans h5⟩

set_option maxRecDepth 100000 in
set_option maxHeartbeats 1000000 in
theorem flat_table (vs : List V) (hp : Plain vs) (D A : Option Addr) (n c c0 : Nat) (hn : n ≤ 1000) (w : World) (ht : TableAt w w.heap.size D A n c) (hr : Rd w w.heap.size 5 A n (cellsV vs)) :
    Calls Tryz.prog 32 #[.slice D 1 c0] w fun e w' => ∃ A' c', e = .returned (.slice A' n c') ∧ w'.ownsRow w.heap.size 27 5 (.slice A' n c') n (cellsV vs) ∧ Below w.heap.size w w' := by
  obtain ⟨i0, hi, hz0, hz1, hz2⟩ := info_parts info27
  have HR := hide hr
  have hl : vs.length = n := by have := hr.1; rw [cellsV_length] at this; omega
  obtain ⟨g0, g1, c1, rfl, hg0, hg1, h0, h1, h2, h3, h4, h5⟩ := ht
  clear hr
  go_enter Tryz.func32, Tryz.ntmps32
  go_wp2_with fail
  go_loopw [3, 4] (fun v i wr => (i = .int .i64 0 ∧ v = .slice none 0 0 ∧ w = wr) ∨ (i = .int .i64 1 ∧ Hid (wr.ownsRow w.heap.size 27 5 v n (cellsV vs)) ∧ Below w.heap.size w wr)) (fun _ i _ => 1 - (intOf i).toNat)
  case atStart => exact .inl ⟨rfl, rfl, rfl⟩
  case round =>
    rcases hrel with ⟨rfl, rfl, rfl⟩ | ⟨rfl, hown, hb⟩
    · go_wp2_with fail
      go_loopw [3, 5] (fun v i wr => (i = .int .i64 0 ∧ v = .slice none 0 0 ∧ w = wr) ∨ (i = .int .i64 1 ∧ Hid (wr.ownsRow w.heap.size 27 5 v n (cellsV vs)) ∧ Below w.heap.size w wr)) (fun _ i _ => 1 - (intOf i).toNat)
      case atStart => exact .inl ⟨rfl, rfl, rfl⟩
      case round =>
        rcases hrel with ⟨rfl, rfl, rfl⟩ | ⟨rfl, hown, hb⟩
        · go_wp2_with (first
            | (go_at_call 32; refine (flat_any vs hp A n c hn _ HR.out).mono ?_; rintro e w1 ⟨A1, k1, rfl, hown1, hb1⟩)
            | (at_builtin; refine wpList_append_any _ rfl (.tmp 35) (.tmp 44) _ rfl w.heap.size 27 i0 _ 5 64 Tryz.underlying29 hi hz0 hz1 hz2 rfl (by omega) (.slice none 0 0) 0 [] rfl ⟨by simp, .inl ⟨rfl, rfl⟩⟩ w1.heap.size A1 n k1 (cellsV vs) rfl (Reads.of_own hown1) (cellsV_one vs) (by unfold maxLen; omega) (by omega) hb1.size ?_; intro v' w' hown' hgrow hloc))
          go_roundw
          case rel =>
            refine .inr ⟨rfl, hide (by simpa using hown'), hb1.grown hgrow hb1.size (by simp [Value.ownBlock])⟩
          case measure => simp [intOf]
        · obtain ⟨hc, hf⟩ := bcell hb
          go_wp2_with fail
          go_roundw
          case rel => exact .inr ⟨rfl, hown, hb⟩
          case measure => simp [intOf]
    · go_wp2_with fail
      go_ret
      obtain ⟨A', c', rfl⟩ := own_slice hown.out
      exact ⟨A', c', rfl, hown.out, hb⟩
end Go.Proofs.YtemeamckdfnlfaaGreatDoor
