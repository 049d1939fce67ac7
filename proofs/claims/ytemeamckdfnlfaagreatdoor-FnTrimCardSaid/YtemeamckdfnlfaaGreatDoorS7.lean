/- Contract: spec.numeric answers some truth, whatever the value. -/
import Derived.Test.YtemeamckdfnlfaaGreatDoorS6
import Derived.RegionCalls
namespace Go.Proofs.YtemeamckdfnlfaaGreatDoor
open Go Go.RowKit

theorem numeric_num (k n d : Int) (t : ByteArray) (hk : k ≠ 2) (w : World) : Calls Tryz.prog 143 #[.agg #[.int .i64 k, .int .i64 n, .int .i64 d, .string t, .slice none 0 0]] w (SomeBool w) := by
  have q2 : (k == 2) = false := beq_eq_false_iff_ne.2 hk
  clear hk
  by_cases h1 : k = 1
  · subst h1
    go_enter Tryz.func143, Tryz.ntmps143
    go_wp2_with fail
    go_ret
    exact ⟨_, rfl, by (repeat' (first | (with_reducible exact Below.refl _ _) | (with_reducible assumption) | (with_reducible refine Below.setCell ?_ ?_ _) | (with_reducible refine Below.alloc ?_ ?_ _) | (with_reducible refine Below.drew ?_) | (with_reducible refine below_drewN ?_ _) | (with_reducible refine Below.trans ?_ (Below.mono (by assumption) ?_)) | (simp <;> omega) | omega))⟩
  · have q1 : (k == 1) = false := beq_eq_false_iff_ne.2 h1
    by_cases h3 : k = 3
    · subst h3
      go_enter Tryz.func143, Tryz.ntmps143
      go_wp2_with fail
      go_ret
      exact ⟨_, rfl, by (repeat' (first | (with_reducible exact Below.refl _ _) | (with_reducible assumption) | (with_reducible refine Below.setCell ?_ ?_ _) | (with_reducible refine Below.alloc ?_ ?_ _) | (with_reducible refine Below.drew ?_) | (with_reducible refine below_drewN ?_ _) | (with_reducible refine Below.trans ?_ (Below.mono (by assumption) ?_)) | (simp <;> omega) | omega))⟩
    · have q3 : (k == 3) = false := beq_eq_false_iff_ne.2 h3
      go_enter Tryz.func143, Tryz.ntmps143
      go_wp2_with fail
      go_ret
      exact ⟨_, rfl, by (repeat' (first | (with_reducible exact Below.refl _ _) | (with_reducible assumption) | (with_reducible refine Below.setCell ?_ ?_ _) | (with_reducible refine Below.alloc ?_ ?_ _) | (with_reducible refine Below.drew ?_) | (with_reducible refine below_drewN ?_ _) | (with_reducible refine Below.trans ?_ (Below.mono (by assumption) ?_)) | (simp <;> omega) | omega))⟩

set_option maxHeartbeats 2000000 in
theorem numeric_text (n d : Int) (t : ByteArray) (ht : t.size ≤ 1000) (w : World) : Calls Tryz.prog 143 #[.agg #[.int .i64 2, .int .i64 n, .int .i64 d, .string t, .slice none 0 0]] w (SomeBool w) := by
  go_enter Tryz.func143, Tryz.ntmps143
  go_wp2_with (go_at_call 215; refine (read_any _ ht _).mono ?_; rintro e w1 ⟨k1, n1, d1, t1, hk1, rfl, hb1⟩; obtain ⟨hc1, hf1⟩ := bcell hb1; have hz1 : w.heap.size < w1.heap.size := by (have := hb1.size; simp at this; omega))
  have hw : (k1 = 1 ∧ d1 = 1 ∧ n1 ≤ 99999999999 ∧ -99999999999 ≤ n1) ∨ (k1 == 1 && d1 == 1) = false := by
    unfold ReadOk at hk1
    by_cases h : k1 = 1 ∧ d1 = 1
    · left; omega
    · right
      cases h1 : (k1 == 1 && d1 == 1)
      · rfl
      · simp at h1; exact absurd h1 h
  clear hk1
  have T1 : w1.cell? ⟨w.heap.size, 3, none⟩ = some (.string t) := (hc1 w.heap.size 3 (by simp)).trans (World.cell?_alloc_mark w _ 27 (0, 0) 3)
  clear hc1 hf1
  rcases hw with ⟨rfl, rfl, hn1, hn2⟩ | hw
  · refine wp_region_any (by kernel_rfl) ?_
    change wpAny _ _ _ _ _ _ _ (World.drew _)
    refine wpAny_ready (rs := [0]) (by kernel_rfl) (by simp) ?_
    refine AllReady.cons rfl (fun K hK => ?_) AllReady.nil
    go_simp
    refine hK _ _ ?_
    clear hK K
    refine wpAny_ready (rs := [1]) (by kernel_rfl) (by simp) ?_
    refine AllReady.cons rfl (fun K hK => ?_) AllReady.nil
    go_simp
    refine hK _ _ ?_
    clear hK K
    refine wpAny_ready (rs := [2]) (by kernel_rfl) (by simp) ?_
    refine AllReady.cons rfl (fun K hK => ?_) AllReady.nil
    go_simp
    refine (letters_any _ ht _).mono ?_
    rintro e w2 ⟨b2, rfl, hb2⟩
    obtain ⟨hc2, hf2⟩ := bcell hb2
    have hz2 : w1.heap.size < w2.heap.size := by (have := hb2.size; simp at this; omega)
    have hy2 : w.heap.size < w2.heap.size := by omega
    have T2 : w2.cell? ⟨w.heap.size, 3, none⟩ = some (.string t) := (hc2 w.heap.size 3 (by simp; omega)).trans ((World.cell?_alloc_lt w1 _ ⟨w.heap.size, 3, none⟩ hz1).trans T1)
    have N20 : w2.cell? ⟨w1.heap.size, 0, none⟩ = some (.int .i64 1) := (hc2 w1.heap.size 0 (by simp)).trans (World.cell?_alloc_mark w1 _ 27 (0, 0) 0)
    have N21 : w2.cell? ⟨w1.heap.size, 1, none⟩ = some (.int .i64 n1) := (hc2 w1.heap.size 1 (by simp)).trans (World.cell?_alloc_mark w1 _ 27 (0, 0) 1)
    have N22 : w2.cell? ⟨w1.heap.size, 2, none⟩ = some (.int .i64 1) := (hc2 w1.heap.size 2 (by simp)).trans (World.cell?_alloc_mark w1 _ 27 (0, 0) 2)
    have N23 : w2.cell? ⟨w1.heap.size, 3, none⟩ = some (.string t1) := (hc2 w1.heap.size 3 (by simp)).trans (World.cell?_alloc_mark w1 _ 27 (0, 0) 3)
    have N24 : w2.cell? ⟨w1.heap.size, 4, none⟩ = some (.slice none 0 0) := (hc2 w1.heap.size 4 (by simp)).trans (World.cell?_alloc_mark w1 _ 27 (0, 0) 4)
    clear hc2 hf2
    go_simp
    refine hK _ _ ?_
    clear hK K T1
    cases b2
    all_goals
      refine wpAny_ready (rs := [3]) (by kernel_rfl) (by simp) ?_
      refine AllReady.cons rfl (fun K hK => ?_) AllReady.nil
      go_simp
      refine hK _ _ ?_
      clear hK K
      refine wpAny_ready (rs := [4]) (by kernel_rfl) (by simp) ?_
      refine AllReady.cons rfl (fun K hK => ?_) AllReady.nil
      go_simp
      refine hK _ _ ?_
      clear hK K
      refine wpAny_ready (rs := [5]) (by kernel_rfl) (by simp) ?_
      refine AllReady.cons rfl (fun K hK => ?_) AllReady.nil
      go_simp
      first
        | (refine hK _ _ ?_
           clear hK K)
        | (refine (isWhole_any _ _ _ _ _).mono ?_
           rintro e w3 ⟨rfl, hb3⟩
           obtain ⟨hc3, hf3⟩ := bcell hb3
           have hz3 : w1.heap.size < w3.heap.size := by (have := hb3.size; omega)
           have hy3 : w.heap.size < w3.heap.size := by omega
           have T3 : w3.cell? ⟨w.heap.size, 3, none⟩ = some (.string t) := (hc3 _ _ hy2).trans T2
           have N30 := (hc3 _ _ hz2).trans N20
           have N31 := (hc3 _ _ hz2).trans N21
           have N32 := (hc3 _ _ hz2).trans N22
           have N33 := (hc3 _ _ hz2).trans N23
           have N34 := (hc3 _ _ hz2).trans N24
           clear hc3 hf3 T2 N20 N21 N22 N23 N24
           go_simp
           refine hK _ _ ?_
           clear hK K)
      refine wpAny_ready (rs := [6]) (by kernel_rfl) (by simp) ?_
      refine AllReady.cons rfl (fun K hK => ?_) AllReady.nil
      go_simp
      refine hK _ _ ?_
      clear hK K
      first
        | (refine wpAny_take (i := 9) (v := .pointer (some ⟨w.heap.size, 3, none⟩)) rfl (by kernel_rfl) (by kernel_rfl) (by kernel_rfl) (fun _ _ _ h => h) (Or.inl ⟨by rfl, ?_⟩) ?_
           · intro w
             go_simp)
        | refine wpAny_take (i := 9) (v := undef) rfl (by kernel_rfl) (by kernel_rfl) (by kernel_rfl) (fun _ _ _ h => h) (Or.inr ⟨by rfl, rfl⟩) ?_
      refine wpAny_ready (rs := [7, 10]) (by kernel_rfl) (by simp) ?_
      refine AllReady.cons rfl (fun K hK => ?_) ?_
      · go_simp
        refine hK _ _ ?_
        clear hK K
        refine wpAny_ready (rs := [8, 10]) (by kernel_rfl) (by simp) ?_
        refine AllReady.cons rfl (fun K hK => ?_) ?_
        · go_simp
          first
            | (refine hK _ _ ?_
               clear hK K)
            | (refine (plain_whole n1 t1 hn1 hn2 _).mono ?_
               rintro e w4 ⟨x, rfl, hb4⟩
               obtain ⟨hc4, hf4⟩ := bcell hb4
               have hz4 : w1.heap.size < w4.heap.size := by (have := hb4.size; omega)
               have hy4 : w.heap.size < w4.heap.size := by omega
               have T4 : w4.cell? ⟨w.heap.size, 3, none⟩ = some (.string t) := (hc4 _ _ hy3).trans T3
               have N41 := (hc4 _ _ hz3).trans N31
               clear hc4 hf4 T3 N30 N31 N32 N33 N34
               go_simp
               refine hK _ _ ?_
               clear hK K
               cases hq : (x.toList == t.toList))
          all_goals
            refine wpAny_ready (rs := [10]) (by kernel_rfl) (by simp) ?_
            refine AllReady.cons rfl (fun K hK => ?_) AllReady.nil
            go_simp
            refine hK _ _ ?_
            clear hK K
            refine wpAny_ready (rs := [11]) (by kernel_rfl) (by simp) ?_
            refine AllReady.cons rfl (fun K hK => ?_) AllReady.nil
            go_simp
            refine hK _ _ ?_
            clear hK K
            refine wpAny_ready (rs := [12]) (by kernel_rfl) (by simp) ?_
            refine AllReady.cons rfl (fun K hK => ?_) AllReady.nil
            go_simp
            refine hK _ _ ?_
            clear hK K
            refine wpAny_ready (rs := [13]) (by kernel_rfl) (by simp) ?_
            refine AllReady.cons rfl (fun K hK => ?_) AllReady.nil
            go_simp
            refine hK _ _ ?_
            clear hK K
            refine wpAny_ready (rs := [14]) (by kernel_rfl) (by simp) ?_
            refine AllReady.cons rfl (fun K hK => ?_) AllReady.nil
            go_simp
            refine hK _ _ ?_
            clear hK K
            refine wpAny_ready (rs := [15]) (by kernel_rfl) (by simp) ?_
            refine AllReady.cons rfl (fun K hK => ?_) AllReady.nil
            go_simp
            refine hK _ _ ?_
            clear hK K
            refine wpAny_ready (rs := [16]) (by kernel_rfl) (by simp) ?_
            refine AllReady.cons rfl (fun K hK => ?_) AllReady.nil
            go_simp
            first
              | (refine hK _ _ ?_
                 clear hK K)
              | (refine (abs_any _ _).mono ?_
                 rintro e w5 ⟨m, rfl, rfl⟩
                 go_simp
                 refine hK _ _ ?_
                 clear hK K)
            refine wpAny_ready (rs := [17]) (by kernel_rfl) (by simp) ?_
            refine AllReady.cons rfl (fun K hK => ?_) AllReady.nil
            go_simp
            refine hK _ _ ?_
            clear hK K
            refine wpAny_ready (rs := [18]) (by kernel_rfl) (by simp) ?_
            refine AllReady.cons rfl (fun K hK => ?_) AllReady.nil
            go_simp
            refine hK _ _ ?_
            clear hK K
            refine wpAny_ready (rs := [19]) (by kernel_rfl) (by simp) ?_
            refine AllReady.cons rfl (fun K hK => ?_) AllReady.nil
            go_simp
            refine hK _ _ ?_
            clear hK K
            refine wpAny_ready (rs := [20]) (by kernel_rfl) (by simp) ?_
            refine AllReady.cons rfl (fun K hK => ?_) AllReady.nil
            go_simp
            refine hK _ _ ?_
            clear hK K
            refine wpAny_done (by kernel_rfl) ?_ _
            go_wp2_with fail
            go_ret
            exact ⟨_, rfl, by (repeat' (first | (with_reducible exact Below.refl _ _) | (with_reducible assumption) | (with_reducible refine Below.setCell ?_ ?_ _) | (with_reducible refine Below.alloc ?_ ?_ _) | (with_reducible refine Below.drew ?_) | (with_reducible refine below_drewN ?_ _) | (with_reducible refine Below.trans ?_ (Below.mono (by assumption) ?_)) | (simp <;> omega) | omega))⟩
        refine AllReady.cons rfl (fun K hK => ?_) AllReady.nil
        go_simp
        refine hK _ _ ?_
        clear hK K
        refine wpAny_ready (rs := [8]) (by kernel_rfl) (by simp) ?_
        refine AllReady.cons rfl (fun K hK => ?_) AllReady.nil
        go_simp
        first
          | (refine hK _ _ ?_
             clear hK K)
          | (refine (plain_whole n1 t1 hn1 hn2 _).mono ?_
             rintro e w4 ⟨x, rfl, hb4⟩
             obtain ⟨hc4, hf4⟩ := bcell hb4
             have hz4 : w1.heap.size < w4.heap.size := by (have := hb4.size; omega)
             have hy4 : w.heap.size < w4.heap.size := by omega
             have T4 : w4.cell? ⟨w.heap.size, 3, none⟩ = some (.string t) := (hc4 _ _ hy3).trans T3
             have N41 := (hc4 _ _ hz3).trans N31
             clear hc4 hf4 T3 N30 N31 N32 N33 N34
             go_simp
             refine hK _ _ ?_
             clear hK K
             cases hq : (x.toList == t.toList))
        all_goals
          refine wpAny_ready (rs := [11]) (by kernel_rfl) (by simp) ?_
          refine AllReady.cons rfl (fun K hK => ?_) AllReady.nil
          go_simp
          refine hK _ _ ?_
          clear hK K
          refine wpAny_ready (rs := [12]) (by kernel_rfl) (by simp) ?_
          refine AllReady.cons rfl (fun K hK => ?_) AllReady.nil
          go_simp
          refine hK _ _ ?_
          clear hK K
          refine wpAny_ready (rs := [13]) (by kernel_rfl) (by simp) ?_
          refine AllReady.cons rfl (fun K hK => ?_) AllReady.nil
          go_simp
          refine hK _ _ ?_
          clear hK K
          refine wpAny_ready (rs := [14]) (by kernel_rfl) (by simp) ?_
          refine AllReady.cons rfl (fun K hK => ?_) AllReady.nil
          go_simp
          refine hK _ _ ?_
          clear hK K
          refine wpAny_ready (rs := [15]) (by kernel_rfl) (by simp) ?_
          refine AllReady.cons rfl (fun K hK => ?_) AllReady.nil
          go_simp
          refine hK _ _ ?_
          clear hK K
          refine wpAny_ready (rs := [16]) (by kernel_rfl) (by simp) ?_
          refine AllReady.cons rfl (fun K hK => ?_) AllReady.nil
          go_simp
          first
            | (refine hK _ _ ?_
               clear hK K)
            | (refine (abs_any _ _).mono ?_
               rintro e w5 ⟨m, rfl, rfl⟩
               go_simp
               refine hK _ _ ?_
               clear hK K)
          refine wpAny_ready (rs := [17]) (by kernel_rfl) (by simp) ?_
          refine AllReady.cons rfl (fun K hK => ?_) AllReady.nil
          go_simp
          refine hK _ _ ?_
          clear hK K
          refine wpAny_ready (rs := [18]) (by kernel_rfl) (by simp) ?_
          refine AllReady.cons rfl (fun K hK => ?_) AllReady.nil
          go_simp
          refine hK _ _ ?_
          clear hK K
          refine wpAny_ready (rs := [19]) (by kernel_rfl) (by simp) ?_
          refine AllReady.cons rfl (fun K hK => ?_) AllReady.nil
          go_simp
          refine hK _ _ ?_
          clear hK K
          refine wpAny_ready (rs := [20]) (by kernel_rfl) (by simp) ?_
          refine AllReady.cons rfl (fun K hK => ?_) AllReady.nil
          go_simp
          refine hK _ _ ?_
          clear hK K
          refine wpAny_done (by kernel_rfl) ?_ _
          go_wp2_with fail
          go_ret
          exact ⟨_, rfl, by (repeat' (first | (with_reducible exact Below.refl _ _) | (with_reducible assumption) | (with_reducible refine Below.setCell ?_ ?_ _) | (with_reducible refine Below.alloc ?_ ?_ _) | (with_reducible refine Below.drew ?_) | (with_reducible refine below_drewN ?_ _) | (with_reducible refine Below.trans ?_ (Below.mono (by assumption) ?_)) | (simp <;> omega) | omega))⟩
      refine AllReady.cons rfl (fun K hK => ?_) AllReady.nil
      go_simp
      refine hK _ _ ?_
      clear hK K
      refine wpAny_ready (rs := [7]) (by kernel_rfl) (by simp) ?_
      refine AllReady.cons rfl (fun K hK => ?_) AllReady.nil
      go_simp
      refine hK _ _ ?_
      clear hK K
      refine wpAny_ready (rs := [8]) (by kernel_rfl) (by simp) ?_
      refine AllReady.cons rfl (fun K hK => ?_) AllReady.nil
      go_simp
      first
        | (refine hK _ _ ?_
           clear hK K)
        | (refine (plain_whole n1 t1 hn1 hn2 _).mono ?_
           rintro e w4 ⟨x, rfl, hb4⟩
           obtain ⟨hc4, hf4⟩ := bcell hb4
           have hz4 : w1.heap.size < w4.heap.size := by (have := hb4.size; omega)
           have hy4 : w.heap.size < w4.heap.size := by omega
           have T4 : w4.cell? ⟨w.heap.size, 3, none⟩ = some (.string t) := (hc4 _ _ hy3).trans T3
           have N41 := (hc4 _ _ hz3).trans N31
           clear hc4 hf4 T3 N30 N31 N32 N33 N34
           go_simp
           refine hK _ _ ?_
           clear hK K
           cases hq : (x.toList == t.toList))
      all_goals
        refine wpAny_ready (rs := [11]) (by kernel_rfl) (by simp) ?_
        refine AllReady.cons rfl (fun K hK => ?_) AllReady.nil
        go_simp
        refine hK _ _ ?_
        clear hK K
        refine wpAny_ready (rs := [12]) (by kernel_rfl) (by simp) ?_
        refine AllReady.cons rfl (fun K hK => ?_) AllReady.nil
        go_simp
        refine hK _ _ ?_
        clear hK K
        refine wpAny_ready (rs := [13]) (by kernel_rfl) (by simp) ?_
        refine AllReady.cons rfl (fun K hK => ?_) AllReady.nil
        go_simp
        refine hK _ _ ?_
        clear hK K
        refine wpAny_ready (rs := [14]) (by kernel_rfl) (by simp) ?_
        refine AllReady.cons rfl (fun K hK => ?_) AllReady.nil
        go_simp
        refine hK _ _ ?_
        clear hK K
        refine wpAny_ready (rs := [15]) (by kernel_rfl) (by simp) ?_
        refine AllReady.cons rfl (fun K hK => ?_) AllReady.nil
        go_simp
        refine hK _ _ ?_
        clear hK K
        refine wpAny_ready (rs := [16]) (by kernel_rfl) (by simp) ?_
        refine AllReady.cons rfl (fun K hK => ?_) AllReady.nil
        go_simp
        first
          | (refine hK _ _ ?_
             clear hK K)
          | (refine (abs_any _ _).mono ?_
             rintro e w5 ⟨m, rfl, rfl⟩
             go_simp
             refine hK _ _ ?_
             clear hK K)
        refine wpAny_ready (rs := [17]) (by kernel_rfl) (by simp) ?_
        refine AllReady.cons rfl (fun K hK => ?_) AllReady.nil
        go_simp
        refine hK _ _ ?_
        clear hK K
        refine wpAny_ready (rs := [18]) (by kernel_rfl) (by simp) ?_
        refine AllReady.cons rfl (fun K hK => ?_) AllReady.nil
        go_simp
        refine hK _ _ ?_
        clear hK K
        refine wpAny_ready (rs := [19]) (by kernel_rfl) (by simp) ?_
        refine AllReady.cons rfl (fun K hK => ?_) AllReady.nil
        go_simp
        refine hK _ _ ?_
        clear hK K
        refine wpAny_ready (rs := [20]) (by kernel_rfl) (by simp) ?_
        refine AllReady.cons rfl (fun K hK => ?_) AllReady.nil
        go_simp
        refine hK _ _ ?_
        clear hK K
        refine wpAny_done (by kernel_rfl) ?_ _
        go_wp2_with fail
        go_ret
        exact ⟨_, rfl, by (repeat' (first | (with_reducible exact Below.refl _ _) | (with_reducible assumption) | (with_reducible refine Below.setCell ?_ ?_ _) | (with_reducible refine Below.alloc ?_ ?_ _) | (with_reducible refine Below.drew ?_) | (with_reducible refine below_drewN ?_ _) | (with_reducible refine Below.trans ?_ (Below.mono (by assumption) ?_)) | (simp <;> omega) | omega))⟩
  · refine wp_region_any (by kernel_rfl) ?_
    change wpAny _ _ _ _ _ _ _ (World.drew _)
    refine wpAny_ready (rs := [0]) (by kernel_rfl) (by simp) ?_
    refine AllReady.cons rfl (fun K hK => ?_) AllReady.nil
    go_simp
    refine hK _ _ ?_
    clear hK K
    refine wpAny_ready (rs := [1]) (by kernel_rfl) (by simp) ?_
    refine AllReady.cons rfl (fun K hK => ?_) AllReady.nil
    go_simp
    refine hK _ _ ?_
    clear hK K
    refine wpAny_ready (rs := [2]) (by kernel_rfl) (by simp) ?_
    refine AllReady.cons rfl (fun K hK => ?_) AllReady.nil
    go_simp
    refine (letters_any _ ht _).mono ?_
    rintro e w2 ⟨b2, rfl, hb2⟩
    obtain ⟨hc2, hf2⟩ := bcell hb2
    have hz2 : w1.heap.size < w2.heap.size := by (have := hb2.size; simp at this; omega)
    have hy2 : w.heap.size < w2.heap.size := by omega
    have T2 : w2.cell? ⟨w.heap.size, 3, none⟩ = some (.string t) := (hc2 w.heap.size 3 (by simp; omega)).trans ((World.cell?_alloc_lt w1 _ ⟨w.heap.size, 3, none⟩ hz1).trans T1)
    have N20 : w2.cell? ⟨w1.heap.size, 0, none⟩ = some (.int .i64 k1) := (hc2 w1.heap.size 0 (by simp)).trans (World.cell?_alloc_mark w1 _ 27 (0, 0) 0)
    have N21 : w2.cell? ⟨w1.heap.size, 1, none⟩ = some (.int .i64 n1) := (hc2 w1.heap.size 1 (by simp)).trans (World.cell?_alloc_mark w1 _ 27 (0, 0) 1)
    have N22 : w2.cell? ⟨w1.heap.size, 2, none⟩ = some (.int .i64 d1) := (hc2 w1.heap.size 2 (by simp)).trans (World.cell?_alloc_mark w1 _ 27 (0, 0) 2)
    have N23 : w2.cell? ⟨w1.heap.size, 3, none⟩ = some (.string t1) := (hc2 w1.heap.size 3 (by simp)).trans (World.cell?_alloc_mark w1 _ 27 (0, 0) 3)
    have N24 : w2.cell? ⟨w1.heap.size, 4, none⟩ = some (.slice none 0 0) := (hc2 w1.heap.size 4 (by simp)).trans (World.cell?_alloc_mark w1 _ 27 (0, 0) 4)
    clear hc2 hf2
    go_simp
    refine hK _ _ ?_
    clear hK K T1
    cases b2
    all_goals
      refine wpAny_ready (rs := [3]) (by kernel_rfl) (by simp) ?_
      refine AllReady.cons rfl (fun K hK => ?_) AllReady.nil
      go_simp
      refine hK _ _ ?_
      clear hK K
      refine wpAny_ready (rs := [4]) (by kernel_rfl) (by simp) ?_
      refine AllReady.cons rfl (fun K hK => ?_) AllReady.nil
      go_simp
      refine hK _ _ ?_
      clear hK K
      refine wpAny_ready (rs := [5]) (by kernel_rfl) (by simp) ?_
      refine AllReady.cons rfl (fun K hK => ?_) AllReady.nil
      go_simp
      first
        | (refine hK _ _ ?_
           clear hK K)
        | (refine (isWhole_any _ _ _ _ _).mono ?_
           rintro e w3 ⟨rfl, hb3⟩
           obtain ⟨hc3, hf3⟩ := bcell hb3
           have hz3 : w1.heap.size < w3.heap.size := by (have := hb3.size; omega)
           have hy3 : w.heap.size < w3.heap.size := by omega
           have T3 : w3.cell? ⟨w.heap.size, 3, none⟩ = some (.string t) := (hc3 _ _ hy2).trans T2
           have N30 := (hc3 _ _ hz2).trans N20
           have N31 := (hc3 _ _ hz2).trans N21
           have N32 := (hc3 _ _ hz2).trans N22
           have N33 := (hc3 _ _ hz2).trans N23
           have N34 := (hc3 _ _ hz2).trans N24
           clear hc3 hf3 T2 N20 N21 N22 N23 N24
           go_simp
           refine hK _ _ ?_
           clear hK K)
      refine wpAny_ready (rs := [6]) (by kernel_rfl) (by simp) ?_
      refine AllReady.cons rfl (fun K hK => ?_) AllReady.nil
      go_simp
      refine hK _ _ ?_
      clear hK K
      first
        | (refine wpAny_take (i := 9) (v := .pointer (some ⟨w.heap.size, 3, none⟩)) rfl (by kernel_rfl) (by kernel_rfl) (by kernel_rfl) (fun _ _ _ h => h) (Or.inl ⟨by rfl, ?_⟩) ?_
           · intro w
             go_simp)
        | refine wpAny_take (i := 9) (v := undef) rfl (by kernel_rfl) (by kernel_rfl) (by kernel_rfl) (fun _ _ _ h => h) (Or.inr ⟨by rfl, rfl⟩) ?_
      refine wpAny_ready (rs := [7, 10]) (by kernel_rfl) (by simp) ?_
      refine AllReady.cons rfl (fun K hK => ?_) ?_
      · go_simp
        refine hK _ _ ?_
        clear hK K
        refine wpAny_ready (rs := [8, 10]) (by kernel_rfl) (by simp) ?_
        refine AllReady.cons rfl (fun K hK => ?_) ?_
        · go_simp
          refine hK _ _ ?_
          clear hK K
          refine wpAny_ready (rs := [10]) (by kernel_rfl) (by simp) ?_
          refine AllReady.cons rfl (fun K hK => ?_) AllReady.nil
          go_simp
          refine hK _ _ ?_
          clear hK K
          refine wpAny_ready (rs := [11]) (by kernel_rfl) (by simp) ?_
          refine AllReady.cons rfl (fun K hK => ?_) AllReady.nil
          go_simp
          refine hK _ _ ?_
          clear hK K
          refine wpAny_ready (rs := [12]) (by kernel_rfl) (by simp) ?_
          refine AllReady.cons rfl (fun K hK => ?_) AllReady.nil
          go_simp
          refine hK _ _ ?_
          clear hK K
          refine wpAny_ready (rs := [13]) (by kernel_rfl) (by simp) ?_
          refine AllReady.cons rfl (fun K hK => ?_) AllReady.nil
          go_simp
          refine hK _ _ ?_
          clear hK K
          refine wpAny_ready (rs := [14]) (by kernel_rfl) (by simp) ?_
          refine AllReady.cons rfl (fun K hK => ?_) AllReady.nil
          go_simp
          refine hK _ _ ?_
          clear hK K
          refine wpAny_ready (rs := [15]) (by kernel_rfl) (by simp) ?_
          refine AllReady.cons rfl (fun K hK => ?_) AllReady.nil
          go_simp
          refine hK _ _ ?_
          clear hK K
          refine wpAny_ready (rs := [16]) (by kernel_rfl) (by simp) ?_
          refine AllReady.cons rfl (fun K hK => ?_) AllReady.nil
          go_simp
          first
            | (refine hK _ _ ?_
               clear hK K)
            | (refine (abs_any _ _).mono ?_
               rintro e w5 ⟨m, rfl, rfl⟩
               go_simp
               refine hK _ _ ?_
               clear hK K)
          refine wpAny_ready (rs := [17]) (by kernel_rfl) (by simp) ?_
          refine AllReady.cons rfl (fun K hK => ?_) AllReady.nil
          go_simp
          refine hK _ _ ?_
          clear hK K
          refine wpAny_ready (rs := [18]) (by kernel_rfl) (by simp) ?_
          refine AllReady.cons rfl (fun K hK => ?_) AllReady.nil
          go_simp
          refine hK _ _ ?_
          clear hK K
          refine wpAny_ready (rs := [19]) (by kernel_rfl) (by simp) ?_
          refine AllReady.cons rfl (fun K hK => ?_) AllReady.nil
          go_simp
          refine hK _ _ ?_
          clear hK K
          refine wpAny_ready (rs := [20]) (by kernel_rfl) (by simp) ?_
          refine AllReady.cons rfl (fun K hK => ?_) AllReady.nil
          go_simp
          refine hK _ _ ?_
          clear hK K
          refine wpAny_done (by kernel_rfl) ?_ _
          go_wp2_with fail
          go_ret
          exact ⟨_, rfl, by (repeat' (first | (with_reducible exact Below.refl _ _) | (with_reducible assumption) | (with_reducible refine Below.setCell ?_ ?_ _) | (with_reducible refine Below.alloc ?_ ?_ _) | (with_reducible refine Below.drew ?_) | (with_reducible refine below_drewN ?_ _) | (with_reducible refine Below.trans ?_ (Below.mono (by assumption) ?_)) | (simp <;> omega) | omega))⟩
        refine AllReady.cons rfl (fun K hK => ?_) AllReady.nil
        go_simp
        refine hK _ _ ?_
        clear hK K
        refine wpAny_ready (rs := [8]) (by kernel_rfl) (by simp) ?_
        refine AllReady.cons rfl (fun K hK => ?_) AllReady.nil
        go_simp
        refine hK _ _ ?_
        clear hK K
        refine wpAny_ready (rs := [11]) (by kernel_rfl) (by simp) ?_
        refine AllReady.cons rfl (fun K hK => ?_) AllReady.nil
        go_simp
        refine hK _ _ ?_
        clear hK K
        refine wpAny_ready (rs := [12]) (by kernel_rfl) (by simp) ?_
        refine AllReady.cons rfl (fun K hK => ?_) AllReady.nil
        go_simp
        refine hK _ _ ?_
        clear hK K
        refine wpAny_ready (rs := [13]) (by kernel_rfl) (by simp) ?_
        refine AllReady.cons rfl (fun K hK => ?_) AllReady.nil
        go_simp
        refine hK _ _ ?_
        clear hK K
        refine wpAny_ready (rs := [14]) (by kernel_rfl) (by simp) ?_
        refine AllReady.cons rfl (fun K hK => ?_) AllReady.nil
        go_simp
        refine hK _ _ ?_
        clear hK K
        refine wpAny_ready (rs := [15]) (by kernel_rfl) (by simp) ?_
        refine AllReady.cons rfl (fun K hK => ?_) AllReady.nil
        go_simp
        refine hK _ _ ?_
        clear hK K
        refine wpAny_ready (rs := [16]) (by kernel_rfl) (by simp) ?_
        refine AllReady.cons rfl (fun K hK => ?_) AllReady.nil
        go_simp
        first
          | (refine hK _ _ ?_
             clear hK K)
          | (refine (abs_any _ _).mono ?_
             rintro e w5 ⟨m, rfl, rfl⟩
             go_simp
             refine hK _ _ ?_
             clear hK K)
        refine wpAny_ready (rs := [17]) (by kernel_rfl) (by simp) ?_
        refine AllReady.cons rfl (fun K hK => ?_) AllReady.nil
        go_simp
        refine hK _ _ ?_
        clear hK K
        refine wpAny_ready (rs := [18]) (by kernel_rfl) (by simp) ?_
        refine AllReady.cons rfl (fun K hK => ?_) AllReady.nil
        go_simp
        refine hK _ _ ?_
        clear hK K
        refine wpAny_ready (rs := [19]) (by kernel_rfl) (by simp) ?_
        refine AllReady.cons rfl (fun K hK => ?_) AllReady.nil
        go_simp
        refine hK _ _ ?_
        clear hK K
        refine wpAny_ready (rs := [20]) (by kernel_rfl) (by simp) ?_
        refine AllReady.cons rfl (fun K hK => ?_) AllReady.nil
        go_simp
        refine hK _ _ ?_
        clear hK K
        refine wpAny_done (by kernel_rfl) ?_ _
        go_wp2_with fail
        go_ret
        exact ⟨_, rfl, by (repeat' (first | (with_reducible exact Below.refl _ _) | (with_reducible assumption) | (with_reducible refine Below.setCell ?_ ?_ _) | (with_reducible refine Below.alloc ?_ ?_ _) | (with_reducible refine Below.drew ?_) | (with_reducible refine below_drewN ?_ _) | (with_reducible refine Below.trans ?_ (Below.mono (by assumption) ?_)) | (simp <;> omega) | omega))⟩
      refine AllReady.cons rfl (fun K hK => ?_) AllReady.nil
      go_simp
      refine hK _ _ ?_
      clear hK K
      refine wpAny_ready (rs := [7]) (by kernel_rfl) (by simp) ?_
      refine AllReady.cons rfl (fun K hK => ?_) AllReady.nil
      go_simp
      refine hK _ _ ?_
      clear hK K
      refine wpAny_ready (rs := [8]) (by kernel_rfl) (by simp) ?_
      refine AllReady.cons rfl (fun K hK => ?_) AllReady.nil
      go_simp
      refine hK _ _ ?_
      clear hK K
      refine wpAny_ready (rs := [11]) (by kernel_rfl) (by simp) ?_
      refine AllReady.cons rfl (fun K hK => ?_) AllReady.nil
      go_simp
      refine hK _ _ ?_
      clear hK K
      refine wpAny_ready (rs := [12]) (by kernel_rfl) (by simp) ?_
      refine AllReady.cons rfl (fun K hK => ?_) AllReady.nil
      go_simp
      refine hK _ _ ?_
      clear hK K
      refine wpAny_ready (rs := [13]) (by kernel_rfl) (by simp) ?_
      refine AllReady.cons rfl (fun K hK => ?_) AllReady.nil
      go_simp
      refine hK _ _ ?_
      clear hK K
      refine wpAny_ready (rs := [14]) (by kernel_rfl) (by simp) ?_
      refine AllReady.cons rfl (fun K hK => ?_) AllReady.nil
      go_simp
      refine hK _ _ ?_
      clear hK K
      refine wpAny_ready (rs := [15]) (by kernel_rfl) (by simp) ?_
      refine AllReady.cons rfl (fun K hK => ?_) AllReady.nil
      go_simp
      refine hK _ _ ?_
      clear hK K
      refine wpAny_ready (rs := [16]) (by kernel_rfl) (by simp) ?_
      refine AllReady.cons rfl (fun K hK => ?_) AllReady.nil
      go_simp
      first
        | (refine hK _ _ ?_
           clear hK K)
        | (refine (abs_any _ _).mono ?_
           rintro e w5 ⟨m, rfl, rfl⟩
           go_simp
           refine hK _ _ ?_
           clear hK K)
      refine wpAny_ready (rs := [17]) (by kernel_rfl) (by simp) ?_
      refine AllReady.cons rfl (fun K hK => ?_) AllReady.nil
      go_simp
      refine hK _ _ ?_
      clear hK K
      refine wpAny_ready (rs := [18]) (by kernel_rfl) (by simp) ?_
      refine AllReady.cons rfl (fun K hK => ?_) AllReady.nil
      go_simp
      refine hK _ _ ?_
      clear hK K
      refine wpAny_ready (rs := [19]) (by kernel_rfl) (by simp) ?_
      refine AllReady.cons rfl (fun K hK => ?_) AllReady.nil
      go_simp
      refine hK _ _ ?_
      clear hK K
      refine wpAny_ready (rs := [20]) (by kernel_rfl) (by simp) ?_
      refine AllReady.cons rfl (fun K hK => ?_) AllReady.nil
      go_simp
      refine hK _ _ ?_
      clear hK K
      refine wpAny_done (by kernel_rfl) ?_ _
      go_wp2_with fail
      go_ret
      exact ⟨_, rfl, by (repeat' (first | (with_reducible exact Below.refl _ _) | (with_reducible assumption) | (with_reducible refine Below.setCell ?_ ?_ _) | (with_reducible refine Below.alloc ?_ ?_ _) | (with_reducible refine Below.drew ?_) | (with_reducible refine below_drewN ?_ _) | (with_reducible refine Below.trans ?_ (Below.mono (by assumption) ?_)) | (simp <;> omega) | omega))⟩
end Go.Proofs.YtemeamckdfnlfaaGreatDoor
