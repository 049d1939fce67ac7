/- Contract of impl.in over arguments: numbers and columns. -/
import Derived.Test.YtjcnnjknhemimaaGreatDoorG6
import Derived.Test.YtjcnnjknhemimaaGreatDoorL5
import Derived.Deep.Cut
import Derived.Deep.CutRange
import Derived.Deep.CutBlock
import Derived.Deep.RegionLaw
namespace Go.Proofs.YtjcnnjknhemimaaGreatDoor
open Go Go.RowKit
attribute [local go_sem] run_store_float
/-- impl.in of a row of one number. -/
theorem in_one (n : Int) (b c : Nat) (w : World) (hb : b < w.heap.size) (hc : ∀ j u, (iNum n)[j]? = some u → w.cell? ⟨b, j, none⟩ = some u) :
    Calls Tryz.prog 16 #[.slice (some ⟨b, 0, none⟩) 1 c] w fun e w' => ∃ g c', e = .returned (.slice (some ⟨g, 0, none⟩) 1 c') ∧ w.heap.size ≤ g ∧ g < w'.heap.size ∧ (∀ j u, (iNum n)[j]? = some u → w'.cell? ⟨g, j, none⟩ = some u) ∧ Below w.heap.size w w' := by
  have e0 : cellsI [⟨1, dbl n, ⟨#[]⟩⟩] = iNum n := by simp [cellsI, I.cells, iNum]
  refine (in_any [⟨1, dbl n, ⟨#[]⟩⟩] (some ⟨b, 0, none⟩) 1 c (by omega) w ⟨rfl, fun _ => ⟨b, rfl, hb, fun j u hu => hc j u (by rw [e0] at hu; exact hu)⟩⟩).mono ?_
  rintro e w' ⟨A', c', rfl, hown, hbl⟩
  rcases hown.2 with ⟨_, h0⟩ | ⟨g, cap, cur, hv, hg, hh, _, _, _, ht⟩
  · omega
  · injection hv with hA _ hcap
    subst hA
    refine ⟨g, c', rfl, hg, (Array.getElem?_eq_some_iff.1 hh).1, fun j u hu => ?_, hbl⟩
    rw [cell_of_row w' g j cur _ (0, 0) hh]
    rw [e0] at ht
    rw [← ht, List.getElem?_take] at hu
    split at hu
    · simpa using hu
    · cases hu
/-- The numbers of an argument's rows. -/
def rowsOf : Ar → List Int
  | .num _ => []
  | .col ns => ns
theorem okI_parts {w : World} {S : Nat → Prop} {x : Ar} {k : Int} {f : Nat} {A : Option Addr} {m c : Nat} (h : okI w S x [.int .i64 k, .float .f64 f, .string ⟨#[]⟩, .slice A m c]) :
    m = (rowsOf x).length ∧ Grid w S iNum A (rowsOf x) ∧ ∀ (w' : World) (S' : Nat → Prop) (A' : Option Addr) (c' : Nat), Grid w' S' iNum A' (rowsOf x) → (m = 0 → Value.slice A' m c' = .slice none 0 0) → okI w' S' x [.int .i64 k, .float .f64 f, .string ⟨#[]⟩, .slice A' m c'] := by
  cases x with
  | num z =>
    have e : [Value.int .i64 k, .float .f64 f, .string ⟨#[]⟩, .slice A m c] = iNum z := h
    simp only [iNum, List.cons.injEq, Value.int.injEq, Value.float.injEq, Value.slice.injEq, true_and, and_true] at e
    obtain ⟨rfl, rfl, rfl, rfl, rfl⟩ := e
    refine ⟨rfl, fun h => absurd h (by simp [rowsOf]), fun w' S' A' c' _ he => ?_⟩
    show _ = iNum z
    rw [he rfl]
    rfl
  | col ns =>
    obtain ⟨A1, c1, e, hg⟩ := h
    simp only [List.cons.injEq, Value.int.injEq, Value.float.injEq, Value.slice.injEq, true_and, and_true] at e
    obtain ⟨rfl, rfl, rfl, rfl, rfl⟩ := e
    exact ⟨rfl, hg, fun w' S' A' c' hg' _ => ⟨A', c', rfl, hg'⟩⟩
theorem infoRowA : (Tryz.prog.info? 44).map (fun i => (i.zero, i.size, i.bytes)) = some (some (.slice none 0 0), 1, 24) := by kernel_rfl
set_option maxRecDepth 100000 in
set_option maxHeartbeats 2000000 in
theorem in_args (xs : List Ar) (hok : ∀ x ∈ xs, OkAr x) (A : Option Addr) (n c lo : Nat) (hn : xs.length = n) (hn2 : n ≤ 1000) (w : World) (hr : RdL w (In lo w.heap.size) 4 okI A xs) :
    Calls Tryz.prog 16 #[.slice A n c] w (ListI xs w) := by
  obtain ⟨i0, hi, hz0, hz1, hz2⟩ := info_parts info53
  obtain ⟨j0, hj, hy0, hy1, hy2⟩ := info_parts infoRowA
  have HR := hide hr
  have HP := hide hok
  have HN := hide hn
  clear hr hok hn
  go_enter Tryz.func16, Tryz.ntmps16
  go_wp2_with fail
  go_loopw [3, 11] (fun v i wr => ∃ (k : Nat) (css : List (List Value)), k ≤ n ∧ i = .int .i64 k ∧ Hid (wr.ownsRow w.heap.size 42 4 v k css.flatten) ∧ Hid (Built wr (Apt w.heap.size wr.heap.size v.ownBlock) 4 okI css (xs.take k)) ∧ Below w.heap.size w wr) (fun _ i _ => n - (intOf i).toNat)
  case atStart => exact ⟨0, [], by omega, rfl, hide ⟨by simp, .inl ⟨rfl, rfl⟩⟩, hide (by simpa using Built.nil _ _ _ _), Below.refl _ _⟩
  case round =>
    obtain ⟨k, css, hk, rfl, hown, hbl, hb⟩ := hrel
    by_cases hlt : k < n
    · obtain ⟨x, hx⟩ : ∃ x, xs[k]? = some x := ⟨_, List.getElem?_eq_getElem (by rw [HN.out]; exact hlt)⟩
      obtain ⟨g, cs, rfl, hg, hl, ho, hcs⟩ := RdL.at_ (RdL.below okI_keeps HR.out hb) hx
      obtain ⟨kk, f, A1, m1, c1, rfl⟩ := okI_shape ho
      have h0 := hcs 0 _ rfl
      have h1 := hcs 1 _ rfl
      have h2 := hcs 2 _ rfl
      have h3 := hcs 3 _ rfl
      simp only [Nat.add_zero] at h0
      have hz := hb.size
      have HX := hide hx
      have HOK := hide (HP.out x (List.mem_of_getElem? hx))
      obtain ⟨ms, hms⟩ : ∃ ms, ms = rowsOf x := ⟨_, rfl⟩
      obtain ⟨hm1, hgr, hmk⟩ := okI_parts ho
      rw [← hms] at hm1 hgr hmk
      have HMK := hide hmk
      have HGR := hide (RdL.more (rowOk_keeps _) hgr (Nat.le_refl lo) hz)
      have HM := hide hm1
      have hm40 : m1 ≤ 1000 := by
        rw [hm1, hms]
        have := HP.out x (List.mem_of_getElem? hx)
        cases x with
        | num z => simp [rowsOf]
        | col ns => exact Nat.le_trans this.2.1 (by omega)
      clear hx hcs hl hm1 hgr hmk hms ho HOK
      have hlti : (k : Int) < n := by omega
      go_wp2_with fail
      go_loopw [25] (fun i wx => ∃ (i2 : Nat) (v : Value) (cs2 : List (List Value)), i2 ≤ m1 ∧ i = .int .i64 i2 ∧ Hid (wx.ownsRow (wr.heap.size + 2) 44 1 v i2 cs2.flatten) ∧ Hid (Built wx (Apt (wr.heap.size + 2) wx.heap.size v.ownBlock) 1 (rowOk iNum) cs2 (ms.take i2)) ∧
          Hid (Blk wx (wr.heap.size + 1) 42 #[.int .i64 kk, .float .f64 f, .string ⟨#[]⟩, v]) ∧ Hid (i2 = 0 → v = .slice none 0 0) ∧ Below wr.heap.size wr wx) (fun i _ => m1 - (intOf i).toNat)
      case atStart =>
        refine ⟨0, .slice none 0 0, [], by omega, rfl, hide ⟨by simp, .inl ⟨rfl, rfl⟩⟩, hide (by simpa using Built.nil _ _ _ _), hide ?_, hide (fun _ => rfl), by (repeat' (first | (with_reducible exact Below.refl _ _) | (with_reducible assumption) | (with_reducible refine Below.setCell ?_ ?_ _) | (with_reducible refine Below.alloc ?_ ?_ _) | (with_reducible refine Below.drew ?_) | (with_reducible refine below_drewN ?_ _) | (with_reducible refine Below.trans ?_ (Below.mono (by assumption) ?_)) | (simp <;> omega) | omega))⟩
        have := (Blk.new (wr.alloc (.cells #[.int .i64 kk, .float .f64 f, .string ⟨#[]⟩, .slice A1 m1 c1] 27)) 42 #[.int .i64 kk, .float .f64 f, .string ⟨#[]⟩, .slice none 0 0])
        simpa using this
      case round =>
        rename World => wx
        obtain ⟨i2, v, cs2, hi2, rfl, hown2, hbl2, HB, HV, hb2⟩ := hrel
        have z2 : wr.heap.size + 1 < wx.heap.size := HB.out.lt
        by_cases hlt2 : i2 < m1
        · obtain ⟨y, hy⟩ : ∃ y, ms[i2]? = some y := ⟨_, List.getElem?_eq_getElem (by rw [← HM.out]; exact hlt2)⟩
          obtain ⟨g1, b, cb, rfl, hg1, hbb, r0, hrow⟩ := Grid.at_ (RdL.below (rowOk_keeps _) HGR.out hb2) hy
          have HA := hide (in_one y b cb wx.drew (by have := hbb.2; show b < wx.heap.size; omega) hrow)
          have HY := hide hy
          have hgz : g1 < wr.heap.size := hg1.2
          have o3 : wx.cell? ⟨wr.heap.size + 1, 3, none⟩ = some v := HB.out.cell 3
          have f3 : wx.frozen? ⟨wr.heap.size + 1, 3, none⟩ = false := HB.out.frozen 3
          clear hy hrow
          have hlti2 : (i2 : Int) < m1 := by omega
          go_upto_block 3 with fail
          go_cut [] from 26 to 35 (fun wy => ∃ (v' : Value) (css' : List (List Value)), Hid (wy.ownsRow (wr.heap.size + 2) 44 1 v' (i2 + 1) css'.flatten) ∧ Hid (Built wy (Apt (wr.heap.size + 2) wy.heap.size v'.ownBlock) 1 (rowOk iNum) css' (ms.take (i2 + 1))) ∧
            Hid (Blk wy (wr.heap.size + 1) 42 #[.int .i64 kk, .float .f64 f, .string ⟨#[]⟩, v']) ∧ Below wr.heap.size wr wy)
          case first =>
            go_wp2_with fail
            go_region_law (first
              | (refine step_append_any _ rfl (.tmp 30) (.tmp 33) _ rfl (wr.heap.size + 2) 44 j0 _ 1 24 Tryz.underlying40 hj hy0 hy1 hy2 rfl (by omega) v i2 _ rfl ((own_below hown2.out hb1).alloc _) (w1.heap.size + 1) (some ⟨w1.heap.size, 0, none⟩) 1 1 [.slice (some ⟨g2, 0, none⟩) 1 c2] rfl (reads_new w1 44 #[.slice (some ⟨g2, 0, none⟩) 1 c2] 1 1 rfl) (by simp [Value.oneCell']) (by unfold maxLen; omega) (by omega) (by simp; omega) ?_; intro v' w' hown' hgrow hloc; obtain ⟨A2, c3, rfl⟩ := own_slice hown'; have ne2 : ∀ q, q < wr.heap.size + 2 → some q ≠ v.ownBlock := (fun q hq e => by have := own_ge hown2.out _ e.symm; omega); have HB2 := ((HB.out.below hb1 z2).alloc (.cells #[.slice (some ⟨g2, 0, none⟩) 1 c2] 44)).grown hgrow (ne2 _ (by omega)); have F2 := HB2.frozen 3; have C2 := HB2.cell 3)
              | (go_simp; go_at_call 16; refine HA.out.mono ?_; rintro e w1 ⟨g2, c2, rfl, hge2, hg2, hrow2, hb1⟩; have hge2 : wx.heap.size ≤ g2 := hge2; have hb1 : Below wx.heap.size wx w1 := ((Below.refl wx.heap.size wx).drew).trans hb1; have hz1 : wx.heap.size ≤ w1.heap.size := hb1.size; have s1a : w1.cell? ⟨wr.heap.size + 1, 3, none⟩ = some v := (hb1.cell (p := ⟨wr.heap.size + 1, 3, none⟩) z2).trans o3; have s1b : wr.heap.size + 1 < w1.heap.size := (by omega)))
            all_goals
              go_wp2_with fail
              go_meet
              case rel =>
                refine ⟨.slice A2 (i2 + 1) c3, cs2 ++ [[.slice (some ⟨g2, 0, none⟩) 1 c2]], hide ?_, hide ?_, hide (by simpa using HB2.set_ 3 (.slice A2 (i2 + 1) c3)), ?_⟩
                · exact own_far (by simpa using hown') (by show wr.heap.size + 1 < _; omega) _
                · rw [List.take_add_one, HY.out]
                  refine Built.setCell (rowOk_keeps _) ?_ (by show wr.heap.size + 1 < _; omega) _
                  show Built _ _ _ _ _ (List.take i2 ms ++ [y])
                  have b1 := (hbl2.out.below (rowOk_keeps _) hb1).below (rowOk_keeps _) ((Below.refl w1.heap.size w1).alloc (Nat.le_refl _) (.cells #[.slice (some ⟨g2, 0, none⟩) 1 c2] 44))
                  refine (b1.snoc rfl ⟨g2, c2, rfl, ⟨by omega, by simp; omega, fun e => ?_⟩, fun j u hu => ?_⟩).grown (rowOk_keeps _) hgrow hloc
                  · have := own_lt hown2.out g2 e
                    omega
                  · exact (World.cell?_alloc_lt w1 _ ⟨g2, j, none⟩ hg2).trans (hrow2 j u hu)
                · exact (((hb2.trans (hb1.mono (by omega))).alloc (by omega) _).grown hgrow (by simp; omega) (fun q e => by have := own_ge hown2.out q e; omega)).setCell (by simp <;> omega) _
          case rest =>
            obtain ⟨v', css', hown', hbl', HB', hb'⟩ := hcut
            clear hown2 hbl2 HB hb2 o3 f3 HA HV
            go_wp2_with fail
            go_roundw
            case rel => exact ⟨i2 + 1, v', css', by omega, by go_num, hown', hbl', HB', hide (fun h => by omega), hb'⟩
            case measure => simp [intOf]; omega
        · obtain rfl : i2 = m1 := by omega
          obtain ⟨A2, c2, rfl⟩ := own_slice hown2.out
          have hok2 := hide (show okI wx (In (wr.heap.size + 2) wx.heap.size) x [.int .i64 kk, .float .f64 f, .string ⟨#[]⟩, .slice A2 i2 c2] from by
            refine HMK.out _ _ _ _ ?_ HV.out
            have h := hbl2.out
            rw [HM.out, List.take_length] at h
            exact RdL.of_built (h.all_ (rowOk_keeps _)) hown2.out HM.out (fun g _ h1 h2 => ⟨h1, h2⟩))
          have hlti2 : ¬ (i2 : Int) < i2 := by omega
          have o0 : wx.cell? ⟨wr.heap.size + 1, 0, none⟩ = some (.int .i64 kk) := HB.out.cell 0
          have o1 : wx.cell? ⟨wr.heap.size + 1, 1, none⟩ = some (.float .f64 f) := HB.out.cell 1
          have o2 : wx.cell? ⟨wr.heap.size + 1, 2, none⟩ = some (.string ⟨#[]⟩) := HB.out.cell 2
          have o3 : wx.cell? ⟨wr.heap.size + 1, 3, none⟩ = some (.slice A2 i2 c2) := HB.out.cell 3
          have zx := hb2.size
          go_wp2_with (at_builtin; refine wpList_append_any _ rfl (.tmp 37) (.tmp 39) _ rfl w.heap.size 42 i0 _ 4 56 Tryz.underlying44 hi hz0 hz1 hz2 rfl (by omega) _ k _ rfl ((own_below hown.out hb2).alloc _) (wx.heap.size + 1) (some ⟨wx.heap.size, 0, none⟩) 1 1 [.int .i64 kk, .float .f64 f, .string ⟨#[]⟩, .slice A2 i2 c2] rfl (reads_new wx 42 #[.int .i64 kk, .float .f64 f, .string ⟨#[]⟩, .slice A2 i2 c2] 4 1 rfl) (by simp [Value.oneCell']) (by unfold maxLen; omega) (by omega) (by simp; omega) ?_; intro v' w' hown' hgrow hloc)
          go_roundw
          case rel =>
            refine ⟨k + 1, css ++ [[.int .i64 kk, .float .f64 f, .string ⟨#[]⟩, .slice A2 i2 c2]], by omega, by go_num, hide (by simpa using hown'), hide ?_, ?_⟩
            · rw [List.take_add_one, HX.out]
              show Built _ _ _ _ _ (List.take k xs ++ [x])
              have b1 := (hbl.out.below okI_keeps hb2).below okI_keeps ((Below.refl wx.heap.size wx).alloc (Nat.le_refl _) (.cells #[.int .i64 kk, .float .f64 f, .string ⟨#[]⟩, .slice A2 i2 c2] 42))
              refine (b1.snoc rfl (okI_keeps _ _ _ _ _ _ (fun q hq => ⟨⟨by have := hq.1; omega, by have := hq.2; simp; omega, fun e => ?_⟩, Below.heap_alloc wx _ q hq.2⟩) hok2.out)).grown okI_keeps hgrow hloc
              have := own_lt hown.out q e
              have := hq.1
              omega
            · exact ((hb.trans (hb2.mono hz)).alloc (by omega) _).grown hgrow (by simp; omega) (own_ge hown.out)
          case measure => simp [intOf]; omega
    · obtain rfl : k = n := by omega
      have hlti : ¬ (k : Int) < k := by omega
      go_wp2_with fail
      go_ret
      obtain ⟨A', c', rfl⟩ := own_slice hown.out
      refine ⟨A', c', by rw [HN.out]; rfl, ?_, hb⟩
      have h := hbl.out
      rw [← HN.out, List.take_length] at h
      exact RdL.of_built (h.all_ okI_keeps) hown.out HN.out.symm (fun g _ h1 h2 => ⟨h1, h2⟩)
end Go.Proofs.YtjcnnjknhemimaaGreatDoor
