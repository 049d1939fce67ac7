/- Contract of the formula machine's kth: the k-th number of a column, counted from the greatest or from the least. -/
import Derived.Test.YtjcnnjknhemimaaGreatDoorH1
import Derived.Test.YtjcnnjknhemimaaGreatDoorQc
namespace Go.Proofs.YtjcnnjknhemimaaGreatDoor
open Go Go.RowKit Ieee Fl
attribute [local go_sem] run_store_float
/-- A small number; any other is nought. -/
def sm (n : Int) : Sm := ⟨if n.natAbs ≤ 9999 then n else 0, by split <;> omega⟩
theorem sm_val {n : Int} (h : n.natAbs ≤ 9999) : (sm n).1 = n := by
  show (if n.natAbs ≤ 9999 then n else 0) = n
  rw [if_pos h]
def smArr (ns : List Int) : Array Sm := (ns.map sm).toArray
theorem smArr_size (ns : List Int) : (smArr ns).size = ns.length := by simp [smArr]
/-- The i-th number of the sorted list, from the least on. -/
def nth (ns : List Int) (i : Nat) : Int := ((Sort.sort lt (smArr ns))[i]!).1
theorem nth_small (ns : List Int) (i : Nat) : (nth ns i).natAbs ≤ 9999 := ((Sort.sort lt (smArr ns))[i]!).2
noncomputable def fVals (ns : List Int) : List Value := ns.map fun n => .float .f64 (word n)
theorem holds_of_own {w : World} {base n c : Nat} {e : TypeId} {g : Nat} {ns : List Int} (hs : ∀ x ∈ ns, x.natAbs ≤ 9999) (h : w.ownsRow base e 1 (.slice (some ⟨g, 0, none⟩) n c) n (fVals ns)) : Sort.Holds enc w g 0 (smArr ns) := by
  rcases h.2 with ⟨h0, _⟩ | ⟨g', cap, cur, hv, _, hg, _, _, _, ht⟩
  · cases h0
  · injection hv with hA
    injection hA with hA
    injection hA with hA
    subst hA
    intro j hj
    rw [smArr_size] at hj
    refine ⟨?_, Blk.frozen (t := e) (cs := cur) hg (0 + j)⟩
    rw [Nat.zero_add, cell_of_row w g j cur e (0, 0) hg]
    have hx : ns[j]? = some ns[j] := List.getElem?_eq_getElem hj
    have h1 : (fVals ns)[j]? = some (.float .f64 (word ns[j])) := by unfold fVals; rw [List.getElem?_map, hx]; rfl
    rw [← ht, List.getElem?_take] at h1
    split at h1
    · have e2 : (smArr ns)[j]! = sm ns[j] := by
        rw [getElem!_pos _ _ (by rw [smArr_size]; exact hj)]
        simp [smArr]
      rw [e2]
      show cur[j]? = some (.float .f64 (word (sm ns[j]).1))
      rw [sm_val (hs _ (List.getElem_mem hj))]
      simpa using h1
    · cases h1
theorem infoFl : (Tryz.prog.info? 24).map (fun i => (i.zero, i.size, i.bytes)) = some (some (.float .f64 0), 1, 8) := by kernel_rfl
theorem fVals_snoc (ns : List Int) (x : Int) : fVals (ns ++ [x]) = fVals ns ++ [.float .f64 (word x)] := by simp [fVals]
set_option maxRecDepth 100000 in
set_option maxHeartbeats 4000000 in
theorem kth_any (name : ByteArray) (idx : Nat) (ns : List Int) (hok : OkAr (.col ns)) (k n : Nat) (hn : ns.length = n) (hk1 : 1 ≤ k) (hkn : k ≤ n) (hcase : (name = ⟨#[76, 65, 82, 71, 69]⟩ ∧ idx = n - k) ∨ (name = ⟨#[83, 77, 65, 76, 76]⟩ ∧ idx = k - 1)) (q : Nat → Nat) (vs : List Value) (p : Value) (w : World) (hch : Chain w 2 q vs) (hargs : Args w (In 0 w.heap.size) [.col ns, .num k] vs) :
    Calls Tryz.prog 34 #[p, .string name, .pointer (some ⟨q 0, 0, none⟩)] w fun e w' =>
      e = .returned (.agg (fNum (nth ns idx)).toArray) ∧ Below w.heap.size w w' := by
  obtain ⟨i0, hi, hx0, hx1, hx2⟩ := info_parts infoFl
  obtain ⟨cs0, hv0, A, c, L1, L2, rfl, hgrid, -, -, -, -⟩ := hargs 0 _ rfl
  obtain ⟨cs1, hv1, hcs1⟩ := hargs 1 _ rfl
  have hcs1 : cs1 = fNum k := hcs1
  subst hcs1
  obtain ⟨p1, p2, p3, p4, p5⟩ := hch
  obtain ⟨-, f0, g0, m1⟩ := p5 0 (by omega)
  obtain ⟨-, f1, g1, m2⟩ := p5 1 (by omega)
  rw [hv0] at g0
  rw [hv1] at g1
  injection g0 with g0
  injection g1 with g1
  subst g0 g1
  have hl0 := p1 0 (by omega)
  have hl1 := p1 1 (by omega)
  have hl2 := p1 2 (by omega)
  have m0 : w.cell? ⟨q 0, 0, none⟩ = some (.pointer (some ⟨q 1, 0, none⟩)) := by have := hl0.2.2.2; rw [if_pos (by omega)] at this; exact this
  have z0 := hl0.1
  have z1 := hl1.1
  have z2 := hl2.1
  have HS := hide hok.2.2
  have HCASE := hide hcase
  clear hcase
  have HN := hide hn
  have hn40 : n ≤ 40 := by have := hok.2.1; omega
  have HT := hide (fun (w1 : World) (hb : Below w.heap.size w w1) => toList_col ns A n c L1 L2 0 w.heap.size hn hn40 w1 hb.size (RdL.below (rowOk_keeps _) hgrid hb))
  rw [hn] at m1
  simp only [fNum] at m2
  have p4' : w.cell? ⟨q 0, 4, none⟩ = some (.int .i64 2) := p3
  have m1' : w.cell? ⟨q 1, 3, none⟩ = some (.iface 55 (.agg #[.string ⟨#[]⟩, .float .f64 0, .string ⟨#[]⟩, .slice none 0 0, .slice A n c, .bool false, .string ⟨#[]⟩, .int .u8 4, .pointer (some ⟨L1, 0, none⟩), .pointer (some ⟨L2, 0, none⟩)])) := m1
  have m2' : w.cell? ⟨q 2, 3, none⟩ = some (.iface 55 (.agg #[.string ⟨#[]⟩, .float .f64 (word k), .string ⟨#[]⟩, .slice none 0 0, .slice none 0 0, .bool false, .string ⟨#[]⟩, .int .u8 1, .pointer none, .pointer none])) := m2
  have HM2 := hide m2'
  have HP2 := hide p2
  have HP4 := hide p4'
  have HZ := hide (And.intro z0 z2)
  clear p1 p5 hl0 hl1 hl2 hv0 hv1 hargs hgrid hok hn p4 p3 m1 m2 m2' p2 hcs1
  have hki : (k : Int) ≥ 1 := by omega
  go_enter Tryz.func34, Tryz.ntmps34
  go_wp2_with fail
  refine (len_any (q 0) 2 _ ((World.cell?_alloc_lt w _ _ z0).trans p4')).mono ?_
  rintro e w0 ⟨rfl, rfl⟩
  go_wp2_with fail
  refine (front_any (q 0) (q 1) 2 (by omega) _ ((World.cell?_alloc_lt w _ _ z0).trans p4') ((World.cell?_alloc_lt w _ _ z0).trans m0)).mono ?_
  rintro e w0 ⟨rfl, rfl⟩
  go_wp2_with fail
  refine (HT.out _ (by (repeat' (first | (with_reducible exact Below.refl _ _) | (with_reducible assumption) | (with_reducible refine Below.setCell ?_ ?_ _) | (with_reducible refine Below.alloc ?_ ?_ _) | (with_reducible refine Below.drew ?_) | (with_reducible refine below_drewN ?_ _) | (with_reducible refine Below.trans ?_ (Below.mono (by assumption) ?_)) | (simp <;> omega) | omega)))).mono ?_
  rintro e w1 ⟨A1, c1, rfl, hown, hb1⟩
  have hbw1 : Below w.heap.size w w1 := (Below.alloc (Below.refl _ _) (Nat.le_refl _) _).trans (hb1.mono (by simp))
  have hB1 : Blk w1 w.heap.size 55 #[.string ⟨#[]⟩, .float .f64 0, .string ⟨#[]⟩, .slice none 0 0, .slice none 0 0, .bool false, .string ⟨#[]⟩, .int .u8 0, .pointer none, .pointer none] := (Blk.new w _ _).below hb1 (by simp)
  have hz1 : w.heap.size < w1.heap.size := hB1.lt
  have HRD := hide (Rd.of_own hown)
  have HB1 := hide hB1
  have hm2 : w1.cell? ⟨q 2, 3, none⟩ = _ := (hbw1.cell (p := ⟨q 2, 3, none⟩) z2).trans HM2.out
  clear hown hB1 HT
  go_wp2_with fail
  refine (back_any (q 0) (q 2) 2 (by omega) _ ((hbw1.cell (p := ⟨q 0, 4, none⟩) z0).trans HP4.out) ((hbw1.cell (p := ⟨q 0, 1, none⟩) z0).trans HP2.out)).mono ?_
  rintro e w0 ⟨rfl, rfl⟩
  go_wp2_with fail
  refine (toNumber_num (k : Int) (by omega) _).mono ?_
  rintro e w2 ⟨rfl, hb2⟩
  have hbw2 : Below w.heap.size w w2 := hbw1.trans (hb2.mono (by omega))
  have hB2 := HB1.out.below hb2 hz1
  have hz2 : w1.heap.size ≤ w2.heap.size := hb2.size
  have HRD2 := hide ((HRD.out.below hb2).more hz2)
  have HB2 := hide hB2
  have hfi : ∀ W, (convert 24 3 (.float .f64 (word k))).run Tryz.prog W = .ok (.int .i64 k) W := fun W => run_convert_float_int W 24 3 .f64 .i64 (word k) k (by kernel_rfl) Tryz.underlying3 (by
    unfold floatToIntVal
    rw [show (FloatKind.f64.decode (word k)).toInt .zero = some (k : Int) from toInt_is (word_is k (by omega))]
    simp [IntKind.min, IntKind.max, IntKind.signed, IntKind.bits]
    omega)
  clear hb1 hb2 hB2 HRD hm2 hbw1 m0 m1' HB1
  go_wp2_with fail
  go_loopw [10, 45] (fun v i wr => ∃ j : Nat, j ≤ n ∧ i = .int .i64 j ∧ Hid (wr.ownsRow w2.heap.size 24 1 v j (fVals (ns.take j))) ∧ Below w2.heap.size w2 wr) (fun _ i _ => n - (intOf i).toNat)
  case atStart => exact ⟨0, by omega, rfl, hide ⟨by simp [fVals], .inl ⟨rfl, rfl⟩⟩, by (repeat' (first | (with_reducible exact Below.refl _ _) | (with_reducible assumption) | (with_reducible refine Below.setCell ?_ ?_ _) | (with_reducible refine Below.alloc ?_ ?_ _) | (with_reducible refine Below.drew ?_) | (with_reducible refine below_drewN ?_ _) | (with_reducible refine Below.trans ?_ (Below.mono (by assumption) ?_)) | (simp <;> omega) | omega))⟩
  case round =>
    obtain ⟨j, hj, rfl, hown, hb⟩ := hrel
    have hz3 := hb.size
    by_cases hlt : j < n
    · obtain ⟨g, y, rfl, hg, hy, hcs⟩ : ∃ g y, A1 = some ⟨g, 0, none⟩ ∧ g < w2.heap.size ∧ ns[j]? = some y ∧ ∀ t u, (fNum y)[t]? = some u → wr.cell? ⟨g, j * 10 + t, none⟩ = some u := by
        obtain ⟨g, e, hg, hc⟩ := HRD2.out.2 (by omega)
        obtain ⟨y, hy⟩ : ∃ y, ns[j]? = some y := ⟨_, List.getElem?_eq_getElem (by rw [HN.out]; exact hlt)⟩
        refine ⟨g, y, e, hg, hy, fun t u hu => (hb.cell (p := ⟨g, j * 10 + t, none⟩) hg).trans (hc _ u ?_)⟩
        rw [flatMap_at fNum 10 fNum_len ns j y hy t (by have := (List.getElem?_eq_some_iff.1 hu).1; simpa [fNum] using this)]
        exact hu
      have c0 : wr.cell? ⟨g, j * 10, none⟩ = some (.string ⟨#[]⟩) := hcs 0 _ rfl
      have c1 : wr.cell? ⟨g, j * 10 + 1, none⟩ = some (.float .f64 (word y)) := hcs 1 _ rfl
      have c2 : wr.cell? ⟨g, j * 10 + 2, none⟩ = some (.string ⟨#[]⟩) := hcs 2 _ rfl
      have c3 : wr.cell? ⟨g, j * 10 + 3, none⟩ = some (.slice none 0 0) := hcs 3 _ rfl
      have c4 : wr.cell? ⟨g, j * 10 + 4, none⟩ = some (.slice none 0 0) := hcs 4 _ rfl
      have c5 : wr.cell? ⟨g, j * 10 + 5, none⟩ = some (.bool false) := hcs 5 _ rfl
      have c6 : wr.cell? ⟨g, j * 10 + 6, none⟩ = some (.string ⟨#[]⟩) := hcs 6 _ rfl
      have c7 : wr.cell? ⟨g, j * 10 + 7, none⟩ = some (.int .u8 1) := hcs 7 _ rfl
      have c8 : wr.cell? ⟨g, j * 10 + 8, none⟩ = some (.pointer none) := hcs 8 _ rfl
      have c9 : wr.cell? ⟨g, j * 10 + 9, none⟩ = some (.pointer none) := hcs 9 _ rfl
      have HY := hide hy
      clear hy hcs
      have hlti : (j : Int) < n := by omega
      go_wp2_with (at_builtin; refine wpList_append_any _ rfl (.tmp 52) (.tmp 55) _ rfl w2.heap.size 24 i0 _ 1 8 Tryz.underlying86 hi hx0 hx1 hx2 rfl (by omega) _ j _ rfl ((hown.out.alloc _).alloc _) (wr.heap.size + 1 + 1) (some ⟨wr.heap.size + 1, 0, none⟩) 1 1 [.float .f64 (word y)] rfl (reads_new_at (wr.alloc _) (wr.heap.size + 1) (by simp) 24 #[.float .f64 (word y)] 1 1 rfl) (by simp [Value.oneCell']) (by unfold maxLen; omega) (by omega) (by simp; omega) ?_; intro v' w' hown' hgrow hloc)
      go_roundw
      case rel =>
        refine ⟨j + 1, by omega, by go_num, hide ?_, ?_⟩
        · rw [List.take_add_one, HY.out]
          simpa [fVals_snoc] using hown'
        · exact ((hb.alloc hz3 _).alloc (by simp; omega) _).grown hgrow (by simp; omega) (own_ge hown.out)
      case measure => simp [intOf]; omega
    · obtain rfl : j = n := by omega
      have hlti : ¬ (j : Int) < j := by omega
      obtain ⟨gd, cd, rfl, hgd⟩ : ∃ gd cd, u10 = .slice (some ⟨gd, 0, none⟩) j cd ∧ w2.heap.size ≤ gd := by
        rcases hown.out.2 with ⟨_, h⟩ | ⟨g, cap, cur, h1, h2, _⟩
        · omega
        · exact ⟨g, cap, h1, h2⟩
      have hown2 := hide (show wr.ownsRow w2.heap.size 24 1 (.slice (some ⟨gd, 0, none⟩) j cd) j (fVals ns) from by
        have h := hown.out
        rwa [← HN.out, List.take_length, HN.out] at h)
      have hgdz : gd < wr.heap.size := own_lt hown.out gd rfl
      have HSORT := hide (show Calls Tryz.prog 52 #[.slice (some ⟨gd, 0, none⟩) j cd] wr fun e w' => e = .returned (.tuple #[]) ∧ Row wr w' gd 0 (Sort.sort lt (smArr ns)) from by
        have := float64s_any gd 0 cd (smArr ns) wr (holds_of_own HS.out hown2.out) hgdz (by rw [smArr_size, HN.out]; omega)
        rwa [smArr_size, HN.out] at this)
      have HHOLD := hide (holds_of_own HS.out hown2.out)
      have hkj : ¬ ((j : Int) < k) := by omega
      clear hown hown2
      go_wp2_with fail
      refine HSORT.out.mono ?_
      rintro e w3 ⟨rfl, hrow⟩
      have hb3 : RowKit.Below w2.heap.size wr w3 := hrow.below hgd hgdz
      have HB3 := hide ((HB2.out.below hb (by omega)).below hb3 (by omega))
      have hz4 := hb3.size
      have hcell : w3.cell? ⟨gd, idx, none⟩ = some (.float .f64 (word (nth ns idx))) := by
        have hs := (sort_law (smArr ns)).1
        have := hrow.cell HHOLD.out hgdz hs idx (by rw [hs, smArr_size, HN.out]; rcases HCASE.out with ⟨_, h⟩ | ⟨_, h⟩ <;> omega)
        rw [Nat.zero_add] at this
        exact this
      have hns := nth_small ns idx
      have hbw3 : RowKit.Below w.heap.size w w3 := (hbw2.trans (hb.mono (by omega))).trans (hb3.mono (by omega))
      have zw3 : w.heap.size < w3.heap.size := by omega
      have q0 : w3.cell? ⟨w.heap.size, 0, none⟩ = some (.string ⟨#[]⟩) := HB3.out.cell 0
      have q1 : w3.cell? ⟨w.heap.size, 1, none⟩ = some (.float .f64 0) := HB3.out.cell 1
      have q2 : w3.cell? ⟨w.heap.size, 2, none⟩ = some (.string ⟨#[]⟩) := HB3.out.cell 2
      have q3 : w3.cell? ⟨w.heap.size, 3, none⟩ = some (.slice none 0 0) := HB3.out.cell 3
      have q4 : w3.cell? ⟨w.heap.size, 4, none⟩ = some (.slice none 0 0) := HB3.out.cell 4
      have q5 : w3.cell? ⟨w.heap.size, 5, none⟩ = some (.bool false) := HB3.out.cell 5
      have q6 : w3.cell? ⟨w.heap.size, 6, none⟩ = some (.string ⟨#[]⟩) := HB3.out.cell 6
      have q7 : w3.cell? ⟨w.heap.size, 7, none⟩ = some (.int .u8 0) := HB3.out.cell 7
      have q8 : w3.cell? ⟨w.heap.size, 8, none⟩ = some (.pointer none) := HB3.out.cell 8
      have q9 : w3.cell? ⟨w.heap.size, 9, none⟩ = some (.pointer none) := HB3.out.cell 9
      have fq : ∀ o, w3.frozen? ⟨w.heap.size, o, none⟩ = false := HB3.out.frozen
      obtain ⟨vv, hv⟩ : ∃ vv, nth ns idx = vv := ⟨_, rfl⟩
      rw [hv] at hcell hns
      have HV := hide hv
      clear hv
      clear hrow hb3 hb
      rcases HCASE.out with ⟨rfl, hidx⟩ | ⟨rfl, hidx⟩
      · have hix : (j : Int) - (k : Int) = (idx : Int) := by omega
        have hlj : idx < j := by omega
        clear hidx
        go_wp2_with (go_at_call 47; refine (newNum_word vv (by omega) _).mono ?_; rintro e w4 ⟨rfl, hb4⟩; obtain ⟨hc4, hf4⟩ := bcell hb4; have hz5 := hb4.size)
        refine bodyPost_ret (v := .agg (fNum vv).toArray) ?_ rfl ⟨by rw [HV.out], ?_⟩
        · simp [results, Tryz.results34, go_sem, fNum, hc4, zw3, q0, q1, q2, q3, q4, q5, q6, q7, q8, q9]
        · (repeat' (first | (with_reducible exact Below.refl _ _) | (with_reducible assumption) | (with_reducible refine Below.setCell ?_ ?_ _) | (with_reducible refine Below.alloc ?_ ?_ _) | (with_reducible refine Below.drew ?_) | (with_reducible refine below_drewN ?_ _) | (with_reducible refine Below.trans ?_ (Below.mono (by assumption) ?_)) | (simp <;> omega) | omega))
      · have hix : (k : Int) - 1 = (idx : Int) := by omega
        have hlj : idx < j := by omega
        clear hidx
        go_wp2_with (go_at_call 47; refine (newNum_word vv (by omega) _).mono ?_; rintro e w4 ⟨rfl, hb4⟩; obtain ⟨hc4, hf4⟩ := bcell hb4; have hz5 := hb4.size)
        refine bodyPost_ret (v := .agg (fNum vv).toArray) ?_ rfl ⟨by rw [HV.out], ?_⟩
        · simp [results, Tryz.results34, go_sem, fNum, hc4, zw3, q0, q1, q2, q3, q4, q5, q6, q7, q8, q9]
        · (repeat' (first | (with_reducible exact Below.refl _ _) | (with_reducible assumption) | (with_reducible refine Below.setCell ?_ ?_ _) | (with_reducible refine Below.alloc ?_ ?_ _) | (with_reducible refine Below.drew ?_) | (with_reducible refine below_drewN ?_ _) | (with_reducible refine Below.trans ?_ (Below.mono (by assumption) ?_)) | (simp <;> omega) | omega))
end Go.Proofs.YtjcnnjknhemimaaGreatDoor
