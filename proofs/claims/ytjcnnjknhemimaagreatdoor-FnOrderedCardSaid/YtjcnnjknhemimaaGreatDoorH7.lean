/- The walk of laws.FnOrdered: it answers true, whatever the list. -/
import Derived.Test.YtjcnnjknhemimaaGreatDoorH5
import Derived.Test.YtjcnnjknhemimaaGreatDoorH6
import Derived.Test.YtjcnnjknhemimaaGreatDoorG4
import Derived.Deep.Cut
import Derived.Deep.CutRange
namespace Go.Proofs.YtjcnnjknhemimaaGreatDoor
open Go Go.RowKit Ieee Fl
attribute [local go_sem] run_store_float
theorem col_ok {w : World} {lo n c : Nat} {A : Option Addr} {ns : List Int} (hn : ns.length = n) (hg : Grid w (In lo w.heap.size) sNum A ns) (o : Obj) : okS (w.alloc o) (In 0 (w.alloc o).heap.size) (.col ns) [.int .i64 5, .int .i64 0, .int .i64 0, .string ⟨#[]⟩, .slice A n c] :=
  ⟨A, c, by rw [hn], hg.keep (rowOk_keeps _) fun g h => ⟨⟨Nat.zero_le _, by have := h.2; simp; omega⟩, Below.heap_alloc w o g h.2⟩⟩
/-- An argument list of a column, as the call builds it. -/
theorem args1 {w : World} {lo n c : Nat} {A : Option Addr} {ns : List Int} (hn : ns.length = n) (hg : Grid w (In lo w.heap.size) sNum A ns) (T : TypeId) :
    RdL (w.alloc (.cells #[.int .i64 5, .int .i64 0, .int .i64 0, .string ⟨#[]⟩, .slice A n c] T)) (In 0 (w.alloc (.cells #[.int .i64 5, .int .i64 0, .int .i64 0, .string ⟨#[]⟩, .slice A n c] T)).heap.size) 5 okS (some ⟨w.heap.size, 0, none⟩) [.col ns] := fun _ => by
  refine ⟨w.heap.size, rfl, ⟨Nat.zero_le _, by simp⟩, fun i x hx => ?_⟩
  have hi : i = 0 := by have := (List.getElem?_eq_some_iff.1 hx).1; simpa using this
  subst hi
  simp at hx
  subst hx
  exact ⟨_, rfl, col_ok hn hg _, fun j u hu => (World.cell?_alloc_mark w _ T (0, 0) _).trans (by simpa using hu)⟩
/-- An argument list of a column and a number, as the call builds it. -/
theorem args2 {w : World} {lo n c : Nat} {A : Option Addr} {ns : List Int} (hn : ns.length = n) (hg : Grid w (In lo w.heap.size) sNum A ns) (k : Int) (T : TypeId) :
    RdL (w.alloc (.cells #[.int .i64 5, .int .i64 0, .int .i64 0, .string ⟨#[]⟩, .slice A n c, .int .i64 1, .int .i64 k, .int .i64 1, .string ⟨#[]⟩, .slice none 0 0] T)) (In 0 (w.alloc (.cells #[.int .i64 5, .int .i64 0, .int .i64 0, .string ⟨#[]⟩, .slice A n c, .int .i64 1, .int .i64 k, .int .i64 1, .string ⟨#[]⟩, .slice none 0 0] T)).heap.size) 5 okS (some ⟨w.heap.size, 0, none⟩) [.col ns, .num k] := fun _ => by
  refine ⟨w.heap.size, rfl, ⟨Nat.zero_le _, by simp⟩, fun i x hx => ?_⟩
  have hi : i = 0 ∨ i = 1 := by have := (List.getElem?_eq_some_iff.1 hx).1; simp at this; omega
  rcases hi with rfl | rfl
  · simp at hx
    subst hx
    refine ⟨[.int .i64 5, .int .i64 0, .int .i64 0, .string ⟨#[]⟩, .slice A n c], rfl, col_ok hn hg _, fun j u hu => (World.cell?_alloc_mark w _ T (0, 0) _).trans ?_⟩
    have hj : j < 5 := by have := (List.getElem?_eq_some_iff.1 hu).1; simpa using this
    rcases j with _ | _ | _ | _ | _ | j <;> first | omega | (simpa using hu)
  · simp at hx
    subst hx
    refine ⟨sNum k, rfl, rfl, fun j u hu => (World.cell?_alloc_mark w _ T (0, 0) _).trans ?_⟩
    have hj : j < 5 := by have := (List.getElem?_eq_some_iff.1 hu).1; simpa [sNum] using this
    rcases j with _ | _ | _ | _ | _ | j <;> first | omega | (simpa [sNum] using hu)
theorem at_LARGE (ns : List Int) (hok : OkAr (.col ns)) (k : Nat) (hk1 : 1 ≤ k) (hkn : k ≤ ns.length) (A : Option Addr) (n c lo : Nat) (hn : ns.length = n) (w : World) (hg : Grid w (In lo w.heap.size) sNum A ns) (z : Int) (hz : z = (k : Int)) (v : Int) (hv : nth ns (ns.length - k) = v) :
    Calls Tryz.prog 5 #[.func (.func 6) #[] #[], .slice (some ⟨w.heap.size, 0, none⟩) 2 2] (w.alloc (.cells #[.int .i64 5, .int .i64 0, .int .i64 0, .string ⟨#[]⟩, .slice A n c, .int .i64 1, .int .i64 z, .int .i64 1, .string ⟨#[]⟩, .slice none 0 0] 32)) fun e w' => e = .returned (.agg #[.int .i64 1, .float .f64 (word v), .string ⟨#[]⟩, .slice none 0 0]) ∧ Below w.heap.size w w' := by
  subst hz hv
  refine (ask_LARGE [.col ns, .num k] _ (LARGE_m ns hok k hk1 hkn) (fun x hx => ?_) (some ⟨w.heap.size, 0, none⟩) 2 2 0 rfl (by omega) _ (args2 hn hg k _)).mono ?_
  · rcases List.mem_cons.1 hx with rfl | hx
    · exact hok
    · rw [List.mem_singleton.1 hx]
      show (k : Int).natAbs ≤ 9999
      have := hok.2.1
      omega
  · rintro e w' ⟨x, rfl, rfl, hb⟩
    exact ⟨rfl, (Below.alloc (Below.refl _ _) (Nat.le_refl _) _).trans (hb.mono (by simp))⟩
theorem at_SMALL (ns : List Int) (hok : OkAr (.col ns)) (k : Nat) (hk1 : 1 ≤ k) (hkn : k ≤ ns.length) (A : Option Addr) (n c lo : Nat) (hn : ns.length = n) (w : World) (hg : Grid w (In lo w.heap.size) sNum A ns) (z : Int) (hz : z = (k : Int)) (v : Int) (hv : nth ns (k - 1) = v) :
    Calls Tryz.prog 5 #[.func (.func 9) #[] #[], .slice (some ⟨w.heap.size, 0, none⟩) 2 2] (w.alloc (.cells #[.int .i64 5, .int .i64 0, .int .i64 0, .string ⟨#[]⟩, .slice A n c, .int .i64 1, .int .i64 z, .int .i64 1, .string ⟨#[]⟩, .slice none 0 0] 32)) fun e w' => e = .returned (.agg #[.int .i64 1, .float .f64 (word v), .string ⟨#[]⟩, .slice none 0 0]) ∧ Below w.heap.size w w' := by
  subst hz hv
  refine (ask_SMALL [.col ns, .num k] _ (SMALL_m ns hok k hk1 hkn) (fun x hx => ?_) (some ⟨w.heap.size, 0, none⟩) 2 2 0 rfl (by omega) _ (args2 hn hg k _)).mono ?_
  · rcases List.mem_cons.1 hx with rfl | hx
    · exact hok
    · rw [List.mem_singleton.1 hx]
      show (k : Int).natAbs ≤ 9999
      have := hok.2.1
      omega
  · rintro e w' ⟨x, rfl, rfl, hb⟩
    exact ⟨rfl, (Below.alloc (Below.refl _ _) (Nat.le_refl _) _).trans (hb.mono (by simp))⟩
theorem at_SUM (ns : List Int) (hok : OkAr (.col ns)) (A : Option Addr) (n c lo : Nat) (hn : ns.length = n) (w : World) (hg : Grid w (In lo w.heap.size) sNum A ns) :
    Calls Tryz.prog 5 #[.func (.func 10) #[] #[], .slice (some ⟨w.heap.size, 0, none⟩) 1 1] (w.alloc (.cells #[.int .i64 5, .int .i64 0, .int .i64 0, .string ⟨#[]⟩, .slice A n c] 32)) fun e w' => ∃ x, Is x ns.sum 0 ∧ e = .returned (.agg #[.int .i64 1, .float .f64 x, .string ⟨#[]⟩, .slice none 0 0]) ∧ Below w.heap.size w w' := by
  refine (ask_SUM [.col ns] _ (SUM_m ns hok) (fun x hx => ?_) (some ⟨w.heap.size, 0, none⟩) 1 1 0 rfl (by omega) _ (args1 hn hg _)).mono ?_
  · rw [List.mem_singleton.1 hx]
    exact hok
  · rintro e w' ⟨x, hP, rfl, hb⟩
    exact ⟨x, hP, rfl, (Below.alloc (Below.refl _ _) (Nat.le_refl _) _).trans (hb.mono (by simp))⟩
theorem at_MAX (ns : List Int) (hok : OkAr (.col ns)) (A : Option Addr) (n c lo : Nat) (hn : ns.length = n) (w : World) (hg : Grid w (In lo w.heap.size) sNum A ns) :
    Calls Tryz.prog 5 #[.func (.func 11) #[] #[], .slice (some ⟨w.heap.size, 0, none⟩) 1 1] (w.alloc (.cells #[.int .i64 5, .int .i64 0, .int .i64 0, .string ⟨#[]⟩, .slice A n c] 32)) fun e w' => ∃ x, x = word (nth ns (ns.length - 1)) ∧ e = .returned (.agg #[.int .i64 1, .float .f64 x, .string ⟨#[]⟩, .slice none 0 0]) ∧ Below w.heap.size w w' := by
  refine (ask_MAX [.col ns] _ (MAX_m ns hok) (fun x hx => ?_) (some ⟨w.heap.size, 0, none⟩) 1 1 0 rfl (by omega) _ (args1 hn hg _)).mono ?_
  · rw [List.mem_singleton.1 hx]
    exact hok
  · rintro e w' ⟨x, hP, rfl, hb⟩
    obtain ⟨M, hE, -, rfl⟩ := hP
    exact ⟨word M, by rw [great_is ns hok.2.2 hE], rfl, (Below.alloc (Below.refl _ _) (Nat.le_refl _) _).trans (hb.mono (by simp))⟩
theorem at_MIN (ns : List Int) (hok : OkAr (.col ns)) (A : Option Addr) (n c lo : Nat) (hn : ns.length = n) (w : World) (hg : Grid w (In lo w.heap.size) sNum A ns) :
    Calls Tryz.prog 5 #[.func (.func 12) #[] #[], .slice (some ⟨w.heap.size, 0, none⟩) 1 1] (w.alloc (.cells #[.int .i64 5, .int .i64 0, .int .i64 0, .string ⟨#[]⟩, .slice A n c] 32)) fun e w' => ∃ x, x = word (nth ns 0) ∧ e = .returned (.agg #[.int .i64 1, .float .f64 x, .string ⟨#[]⟩, .slice none 0 0]) ∧ Below w.heap.size w w' := by
  refine (ask_MIN [.col ns] _ (MIN_m ns hok) (fun x hx => ?_) (some ⟨w.heap.size, 0, none⟩) 1 1 0 rfl (by omega) _ (args1 hn hg _)).mono ?_
  · rw [List.mem_singleton.1 hx]
    exact hok
  · rintro e w' ⟨x, hP, rfl, hb⟩
    obtain ⟨M, hE, -, rfl⟩ := hP
    exact ⟨word M, by rw [least_is ns hok.2.2 hE], rfl, (Below.alloc (Below.refl _ _) (Nat.le_refl _) _).trans (hb.mono (by simp))⟩
@[local go_sem] theorem field_num (x : Nat) (w : World) : (Instr.field 27 (.agg #[.int .i64 1, .float .f64 x, .string ⟨#[]⟩, .slice none 0 0]) 1).run Tryz.prog w = .ok (.float .f64 x) w := by kernel_rfl
theorem rd_take {w : World} {B m n2 : Nat} {A : Option Addr} {ns0 ns : List Int} (h : n2 ≤ m) (hl : n2 ≤ ns0.length) (hns : ns = ns0.take n2) (hr : Rd w B 1 A m (intCells ns0)) : Rd w B 1 A n2 (intCells ns) := by
  refine ⟨by rw [hns]; simp [intCells]; omega, fun hp => ?_⟩
  obtain ⟨g, e, hg, hc⟩ := hr.2 (by omega)
  refine ⟨g, e, hg, fun j u hu => hc j u ?_⟩
  have hj : j < n2 := by
    have := (List.getElem?_eq_some_iff.1 hu).1
    rw [hns] at this
    simp [intCells] at this
    omega
  rw [← hu, hns]
  unfold intCells
  rw [List.getElem?_map, List.getElem?_map, List.getElem?_take, if_pos hj]
theorem ok_take (ns : List Int) (h : ∀ x ∈ ns, x.natAbs ≤ 9999) (k : Nat) : ∀ x ∈ ns.take k, x.natAbs ≤ 9999 := fun x hx => h x (List.mem_of_mem_take hx)
set_option maxRecDepth 100000 in
set_option maxHeartbeats 8000000 in
theorem ordered_any (f : Nat → Int) (A : Option Addr) (n c : Nat) (hpos : 0 < n) (hn : n ≤ 2147483647) (w : World) (hr : Row1 w A n fun j => .int .i64 (f j)) :
    Calls Tryz.prog 3 #[.slice A n c] w fun e w' => e = .returned (.bool true) ∧ Below w.heap.size w w' := by
  have HT := hide (tiny_any f A n c hn w hr)
  clear hr
  have hni : ¬ (2147483647 : Int) < n := by omega
  go_enter Tryz.func3, Tryz.ntmps3
  go_wp2_with fail
  refine HT.out.mono ?_
  rintro e w1 ⟨ns0, A1, m, c1, rfl, hl0, hm, hs0, hown, hb1⟩
  have HB1 := hide hb1
  have hm1 : 1 ≤ m := by omega
  have hcap : m ≤ c1 := by
    rcases hown.2 with ⟨h, h0⟩ | ⟨g, cap, cur, hv, _, _, h1, _⟩
    · omega
    · injection hv with _ _ h2
      omega
  have HRD := hide (Rd.of_own hown)
  have HL0 := hide hl0
  have HS0 := hide hs0
  clear hown hb1 HT hm hl0 hs0
  go_upto_if 15 with fail
  go_cut [0] from 16 to 17 (fun s wx => ∃ n2 c2, s = .slice A1 n2 c2 ∧ n2 = min m 40 ∧ wx = w1)
  case first =>
    by_cases h40 : m ≤ 40
    · have h40i : ¬ (40 : Int) < m := by omega
      go_wp2_with fail
      go_meet
      case rel => exact ⟨m, c1, rfl, by omega, rfl⟩
    · have h40i : (40 : Int) < m := by omega
      go_wp2_with fail
      go_meet
      case rel => exact ⟨40, c1, rfl, by omega, rfl⟩
  case rest =>
    obtain ⟨n2, c2, rfl, hn2, rfl⟩ := hcut
    have hn21 : 1 ≤ n2 := by omega
    have hn22 : n2 ≤ 40 := by omega
    have hn2m : n2 ≤ m := by omega
    obtain ⟨ns, hns⟩ : ∃ ns, ns = ns0.take n2 := ⟨_, rfl⟩
    have hlen : ns.length = n2 := by rw [hns, List.length_take, HL0.out]; omega
    have hsm : ∀ x ∈ ns, x.natAbs ≤ 9999 := by rw [hns]; exact ok_take ns0 HS0.out n2
    have hok : OkAr (.col ns) := ⟨by omega, by omega, hsm⟩
    have HCOL := hide (fun (W : World) (h : Below wc.heap.size wc W) => column_any ns (by omega) (by omega) hsm A1 n2 c2 hlen W (((rd_take hn2m (by rw [HL0.out]; exact hn2m) hns HRD.out).below h).more h.size))
    have HOK := hide hok
    have HLEN := hide hlen
    have HSM := hide hsm
    have hz1 := HB1.out.size
    clear hns hlen hsm hok HRD HL0 HS0 hn2 hn2m
    have hnz : ((n2 : Int) == 0) = false := by simp; omega
    go_wp2_with fail
    go_loopw [3, 4, 5] (fun s3 s4 s5 wr => ∃ (k sm bf : Nat), k ≤ n2 ∧ s3 = .float .f64 sm ∧ s4 = .float .f64 bf ∧ s5 = .int .i64 ((k : Int) + 1) ∧ Hid (Is sm (psum ns k) 0) ∧ Hid (0 < k → bf = word (nth ns (n2 - k))) ∧ Below wc.heap.size wc wr) (fun _ _ s5 _ => n2 + 1 - (intOf s5).toNat)
    case atStart => exact ⟨0, 0, 0, by omega, rfl, rfl, rfl, hide (by have := is_int 0 (by decide); rw [zero_is] at this; exact this), hide (fun h => absurd h (by omega)), Below.refl _ _⟩
    case round =>
      obtain ⟨k, sm, bf, hk, rfl, rfl, rfl, hI, hbf, hb⟩ := hrel
      have hzr := hb.size
      by_cases hlt : k < n2
      · have hlti : (k : Int) + 1 ≤ n2 := by omega
        go_wp2_with fail
        refine (HCOL.out _ hb).mono ?_
        rintro e w2 ⟨A3, c3, rfl, hg3, hb2⟩
        rw [HLEN.out]
        go_wp2_with fail
        refine (int_fits ((k : Int) + 1) (by omega) (by omega) _).mono ?_
        rintro e w3 ⟨rfl, hb3⟩
        have hg3' := hide (RdL.below (rowOk_keeps _) hg3 hb3 |>.more (rowOk_keeps _) (Nat.le_refl _) hb3.size)
        obtain ⟨v, hv⟩ : ∃ v, nth ns (ns.length - (k + 1)) = v := ⟨_, rfl⟩
        have hvs : v.natAbs ≤ 9999 := by rw [← hv]; exact nth_small _ _
        have hz2 : wr.heap.size ≤ w2.heap.size := hb2.size
        have hz3 : w2.heap.size ≤ w3.heap.size := hb3.size
        have hb03 : Below wc.heap.size wc w3 := (hb.trans (hb2.mono hzr)).trans (hb3.mono (by omega))
        have HL1 := hide (at_LARGE ns HOK.out (k + 1) (by omega) (by rw [HLEN.out]; omega) A3 n2 c3 _ HLEN.out w3 hg3'.out ((k : Int) + 1) rfl v hv)
        clear hg3 hg3' hb2 hb3
        go_wp2_with fail
        refine HL1.out.mono ?_
        rintro e w4 ⟨rfl, hb4⟩
        have hb04 : Below wc.heap.size wc w4 := hb03.trans (hb4.mono hb03.size)
        have hz4 : w3.heap.size ≤ w4.heap.size := hb4.size
        clear hb03 hb4
        go_wp2_with fail
        refine (HCOL.out _ hb04).mono ?_
        rintro e w5 ⟨A5, c5, rfl, hg5, hb5⟩
        rw [HLEN.out]
        go_wp2_with fail
        refine (int_fits _ (by omega) (by omega) _).mono ?_
        rintro e w6 ⟨rfl, hb6⟩
        have hg5' := hide (RdL.below (rowOk_keeps _) hg5 hb6 |>.more (rowOk_keeps _) (Nat.le_refl _) hb6.size)
        have hz5 : w4.heap.size ≤ w5.heap.size := hb5.size
        have hz6 : w5.heap.size ≤ w6.heap.size := hb6.size
        have hb06 : Below wc.heap.size wc w6 := (hb04.trans (hb5.mono hb04.size)).trans (hb6.mono (by have := hb04.size; omega))
        have HS1 := hide (fun (z : Int) (hz : z = ((n2 - k : Nat) : Int)) => at_SMALL ns HOK.out (n2 - k) (by omega) (by rw [HLEN.out]; omega) A5 n2 c5 _ HLEN.out w6 hg5'.out z hz v (by rw [← hv, HLEN.out]; rfl))
        clear hg5 hg5' hb5 hb6 hb04 HL1
        go_wp2_with fail
        refine (HS1.out _ (by omega)).mono ?_
        rintro e w7 ⟨rfl, hb7⟩
        have hb07 : Below wc.heap.size wc w7 := hb06.trans (hb7.mono hb06.size)
        have hz7 : w6.heap.size ≤ w7.heap.size := hb7.size
        obtain ⟨r, hr, hir⟩ := is_add (p := 0) (by omega) hI.out (word_is v (by omega)) (by have := psum_small ns k (by omega); omega)
        have hadd := run_plus (P := Tryz.prog) 24 hr
        have hir := hide (show Is r (psum ns (k + 1)) 0 from by
          rw [psum_succ, show ns.length - 1 - k = ns.length - (k + 1) from by omega, hv]
          exact hir)
        have hq : FloatKind.f64.format.order (word v) (word v) = some .eq := word_refl v (by omega)
        have hbf' := hide (show 0 < k + 1 → word v = word (nth ns (n2 - (k + 1))) from fun _ => by rw [← hv, HLEN.out])
        clear hb06 hb7 HS1 hb hr
        rcases Nat.eq_zero_or_pos k with hk0 | hk0
        · have hk1 : ¬ (1 : Int) < (k : Int) + 1 := by omega
          clear hbf hv
          go_wp2_with fail
          go_roundw
          case rel => exact ⟨k + 1, r, word v, by omega, rfl, rfl, by congr 1; omega, hir, hbf', by (repeat' (first | (with_reducible exact Below.refl _ _) | (with_reducible assumption) | (with_reducible refine Below.setCell ?_ ?_ _) | (with_reducible refine Below.alloc ?_ ?_ _) | (with_reducible refine Below.drew ?_) | (with_reducible refine below_drewN ?_ _) | (with_reducible refine Below.trans ?_ (Below.mono (by assumption) ?_)) | (simp <;> omega) | omega))⟩
          case measure => (simp [intOf] <;> omega)
        · have hk1 : (1 : Int) < (k : Int) + 1 := by omega
          obtain ⟨b, hb0⟩ : ∃ b, nth ns (n2 - k) = b := ⟨_, rfl⟩
          have hbw := hbf.out hk0
          rw [hb0] at hbw
          have hbs : b.natAbs ≤ 9999 := by rw [← hb0]; exact nth_small _ _
          have hle : v ≤ b := by
            rw [← hv, ← hb0]
            exact nth_le ns (by rw [HLEN.out]; omega) (by rw [HLEN.out]; omega)
          have hgt : (FloatKind.f64.format.order (word v) (word b) == some .gt) = false := by
            rw [word_order v b hvs hbs]
            have : compare v b ≠ .gt := fun e => by have := Int.compare_eq_gt.1 e; omega
            simpa using this
          subst hbw
          clear hbf hv hb0 hle
          go_wp2_with fail
          go_roundw
          case rel => exact ⟨k + 1, r, word v, by omega, rfl, rfl, by congr 1, hir, hbf', by (repeat' (first | (with_reducible exact Below.refl _ _) | (with_reducible assumption) | (with_reducible refine Below.setCell ?_ ?_ _) | (with_reducible refine Below.alloc ?_ ?_ _) | (with_reducible refine Below.drew ?_) | (with_reducible refine below_drewN ?_ _) | (with_reducible refine Below.trans ?_ (Below.mono (by assumption) ?_)) | (simp <;> omega) | omega))⟩
          case measure => (simp [intOf] <;> omega)
      · obtain rfl : k = n2 := by omega
        have hlti : ¬ (k : Int) + 1 ≤ k := by omega
        have hbw := hbf.out (by omega)
        rw [Nat.sub_self] at hbw
        have hI' := hide (show Is sm ns.sum 0 from by rw [← psum_all ns HSM.out, HLEN.out]; exact hI.out)
        obtain ⟨lo, hlo⟩ : ∃ lo, nth ns 0 = lo := ⟨_, rfl⟩
        rw [hlo] at hbw
        have hlos : lo.natAbs ≤ 9999 := by rw [← hlo]; exact nth_small _ _
        subst hbw
        clear hbf
        obtain ⟨v, hv⟩ : ∃ v, nth ns (ns.length - 1) = v := ⟨_, rfl⟩
        have hvs : v.natAbs ≤ 9999 := by rw [← hv]; exact nth_small _ _
        have HV := hide hv
        have HLO := hide hlo
        have hqv : FloatKind.f64.format.order (word v) (word v) = some .eq := word_refl v (by omega)
        have hql : FloatKind.f64.format.order (word lo) (word lo) = some .eq := word_refl lo (by omega)
        clear hv hlo
        go_wp2_with fail
        refine (HCOL.out _ hb).mono ?_
        rintro e w2 ⟨A3, c3, rfl, hg3, hb2⟩
        rw [HLEN.out]
        have hz2 : wr.heap.size ≤ w2.heap.size := hb2.size
        have HA := hide (at_SUM ns HOK.out A3 k c3 _ HLEN.out w2 hg3)
        have hb02 : Below wc.heap.size wc w2 := hb.trans (hb2.mono hzr)
        clear hg3 hb2 hb
        go_wp2_with fail
        refine HA.out.mono ?_
        rintro e w3 ⟨x, hx, rfl, hb3⟩
        have hb03 : Below wc.heap.size wc w3 := hb02.trans (hb3.mono hb02.size)
        have hq1 : FloatKind.f64.format.order x sm = some .eq := by
          have h1 : FloatKind.f64.format.order x sm = some (compare ns.sum ns.sum) := order_is hx hI'.out
          rw [h1]
          simp
        clear hb3 hb02 HA hx
        go_wp2_with fail
        refine (HCOL.out _ hb03).mono ?_
        rintro e w4 ⟨A4, c4, rfl, hg4, hb4⟩
        rw [HLEN.out]
        have HA := hide (at_MAX ns HOK.out A4 k c4 _ HLEN.out w4 hg4)
        have hb04 : Below wc.heap.size wc w4 := hb03.trans (hb4.mono hb03.size)
        clear hg4 hb4 hb03
        go_wp2_with fail
        refine HA.out.mono ?_
        rintro e w5 ⟨x5, hx5, rfl, hb5⟩
        rw [HV.out] at hx5
        have hb05 : Below wc.heap.size wc w5 := hb04.trans (hb5.mono hb04.size)
        subst hx5
        clear hb5 hb04 HA
        go_wp2_with fail
        refine (HCOL.out _ hb05).mono ?_
        rintro e w6 ⟨A6, c6, rfl, hg6, hb6⟩
        rw [HLEN.out]
        have hb06 : Below wc.heap.size wc w6 := hb05.trans (hb6.mono hb05.size)
        clear hb6 hb05
        go_wp2_with fail
        refine (int_fits 1 (by omega) (by omega) _).mono ?_
        rintro e w7 ⟨rfl, hb7⟩
        have hg7 := hide (RdL.below (rowOk_keeps _) hg6 hb7 |>.more (rowOk_keeps _) (Nat.le_refl _) hb7.size)
        have HA := hide (at_LARGE ns HOK.out 1 (by omega) (by rw [HLEN.out]; omega) A6 k c6 _ HLEN.out w7 hg7.out 1 rfl v HV.out)
        have hb07 : Below wc.heap.size wc w7 := hb06.trans (hb7.mono hb06.size)
        clear hg6 hg7 hb7 hb06
        go_wp2_with fail
        refine HA.out.mono ?_
        rintro e w8 ⟨rfl, hb8⟩
        have hb08 : Below wc.heap.size wc w8 := hb07.trans (hb8.mono hb07.size)
        clear hb8 hb07 HA
        go_wp2_with fail
        refine (HCOL.out _ hb08).mono ?_
        rintro e w9 ⟨A9, c9, rfl, hg9, hb9⟩
        rw [HLEN.out]
        have HA := hide (at_MIN ns HOK.out A9 k c9 _ HLEN.out w9 hg9)
        have hb09 : Below wc.heap.size wc w9 := hb08.trans (hb9.mono hb08.size)
        clear hg9 hb9 hb08
        go_wp2_with fail
        refine HA.out.mono ?_
        rintro e wa ⟨xa, hxa, rfl, hba⟩
        rw [HLO.out] at hxa
        have hb0a : Below wc.heap.size wc wa := hb09.trans (hba.mono hb09.size)
        subst hxa
        clear hba hb09 HA
        go_wp2_with fail
        go_ret
        exact ⟨rfl, HB1.out.trans (hb0a.mono hz1)⟩
set_option maxRecDepth 100000 in
set_option maxHeartbeats 1000000 in
theorem fnOrdered_any (f : Nat → Int) (A : Option Addr) (n c : Nat) (hmax : n ≤ 9223372036854775807) (w : World) (hr : Row1 w A n fun j => .int .i64 (f j)) :
    Calls Tryz.prog 3 #[.slice A n c] w fun e w' => e = .returned (.bool true) ∧ Below w.heap.size w w' := by
  by_cases h2 : n ≤ 2147483647
  · rcases Nat.eq_zero_or_pos n with h0 | h0
    · subst h0
      have HT := hide (tiny_any f A 0 c h2 w hr)
      clear hr h2 hmax
      go_enter Tryz.func3, Tryz.ntmps3
      go_wp2_with fail
      refine HT.out.mono ?_
      rintro e w1 ⟨ns0, A1, m, c1, rfl, hl0, hm, hs0, hown, hb1⟩
      have hm0 : m = 0 := by omega
      have HB1 := hide hb1
      clear hl0 hm hs0 hown hb1 HT
      subst hm0
      go_wp2_with fail
      go_ret
      exact ⟨rfl, HB1.out⟩
    · exact ordered_any f A n c h0 h2 w hr
  · have hni : (2147483647 : Int) < n := by omega
    clear hr
    go_enter Tryz.func3, Tryz.ntmps3
    go_wp2_with fail
    go_ret
    exact ⟨rfl, by (repeat' (first | (with_reducible exact Below.refl _ _) | (with_reducible assumption) | (with_reducible refine Below.setCell ?_ ?_ _) | (with_reducible refine Below.alloc ?_ ?_ _) | (with_reducible refine Below.drew ?_) | (with_reducible refine below_drewN ?_ _) | (with_reducible refine Below.trans ?_ (Below.mono (by assumption) ?_)) | (simp <;> omega) | omega))⟩
end Go.Proofs.YtjcnnjknhemimaaGreatDoor
