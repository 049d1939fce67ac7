/- Contracts over a column (and a number): the machine's LARGE, SMALL, SUM, MAX, MIN behind one form; the doors; the thin package; laws.ask (printed by wip/mkh5.py). -/
import Derived.Test.YtjcnnjknhemimaaGreatDoorG7
import Derived.Test.YtjcnnjknhemimaaGreatDoorH2
import Derived.Test.YtjcnnjknhemimaaGreatDoorH4
namespace Go.Proofs.YtjcnnjknhemimaaGreatDoor
open Go Go.RowKit Ieee Fl
attribute [local go_sem] run_store_float
/-- A number as a formula argument, of which P holds, as a call returns it. -/
def RetM (P : Nat → Prop) (w : World) (e : Ending) (w' : World) : Prop := ∃ x, P x ∧ e = .returned (.agg #[.string ⟨#[]⟩, .float .f64 x, .string ⟨#[]⟩, .slice none 0 0, .slice none 0 0, .bool false, .string ⟨#[]⟩, .int .u8 1, .pointer none, .pointer none]) ∧ Below w.heap.size w w'
/-- A number as a value, of which P holds, as a call returns it. -/
def RetV (P : Nat → Prop) (w : World) (e : Ending) (w' : World) : Prop := ∃ x, P x ∧ e = .returned (.agg #[.int .i64 1, .float .f64 x, .string ⟨#[]⟩, .slice none 0 0]) ∧ Below w.heap.size w w'
/-- A function of the machine that answers arguments xs by a number of which P holds. -/
def Mach (f : FuncId) (xs : List Ar) (P : Nat → Prop) : Prop := ∀ (q : Nat → Nat) (vs : List Value) (p : Value) (w : World), Chain w xs.length q vs → Args w (In 0 w.heap.size) xs vs → Calls Tryz.prog f #[p, .pointer (some ⟨q 0, 0, none⟩)] w (RetM P w)
theorem doorNum (x : Nat) (w : World) : Calls Tryz.prog 24 #[.agg #[.string ⟨#[]⟩, .float .f64 x, .string ⟨#[]⟩, .slice none 0 0, .slice none 0 0, .bool false, .string ⟨#[]⟩, .int .u8 1, .pointer none, .pointer none]] w fun e w' => e = .returned (.agg #[.int .i64 1, .float .f64 x, .string ⟨#[]⟩, .slice none 0 0]) ∧ Below w.heap.size w w' := by
  refine (doorArg_any ⟨x, ⟨#[]⟩, false, ⟨#[]⟩, 1⟩ (.inl rfl) w).mono ?_
  rintro e w' ⟨rfl, hb⟩
  exact ⟨by simp [valOf, I.agg'], hb⟩
theorem SUM_m (ns : List Int) (hok : OkAr (.col ns)) : Mach 30 [.col ns] (fun x => Is x ns.sum 0) := fun q vs p w hc ha => (SUM_any ns hok ns.length rfl q vs p w hc ha).mono fun _ _ ⟨s, he, hi, hb⟩ => ⟨s, hi, he, hb⟩
theorem MAX_m (ns : List Int) (hok : OkAr (.col ns)) : Mach 31 [.col ns] (fun x => ∃ M, Great M ns ∧ M.natAbs ≤ 9999 ∧ x = word M) := fun q vs p w hc ha => (MAX_any ns hok q vs p w hc ha).mono fun _ _ ⟨M, hE, hM, he, hb⟩ => ⟨word M, ⟨M, hE, hM, rfl⟩, he, hb⟩
theorem MIN_m (ns : List Int) (hok : OkAr (.col ns)) : Mach 32 [.col ns] (fun x => ∃ M, Least M ns ∧ M.natAbs ≤ 9999 ∧ x = word M) := fun q vs p w hc ha => (MIN_any ns hok q vs p w hc ha).mono fun _ _ ⟨M, hE, hM, he, hb⟩ => ⟨word M, ⟨M, hE, hM, rfl⟩, he, hb⟩
set_option maxRecDepth 100000 in
set_option maxHeartbeats 2000000 in
theorem LARGE_m (ns : List Int) (hok : OkAr (.col ns)) (k : Nat) (hk1 : 1 ≤ k) (hkn : k ≤ ns.length) : Mach 26 [.col ns, .num k] (fun x => x = word (nth ns (ns.length - k))) := by
  intro q vs p w hc ha
  obtain ⟨x, hx⟩ : ∃ x, x = word (nth ns (ns.length - k)) := ⟨_, rfl⟩
  have HV := hide (fun (W : World) (h : Below w.heap.size w W) => (show Calls Tryz.prog 34 #[p, .string ⟨#[76, 65, 82, 71, 69]⟩, .pointer (some ⟨q 0, 0, none⟩)] W fun e w' => e = .returned (.agg #[.string ⟨#[]⟩, .float .f64 x, .string ⟨#[]⟩, .slice none 0 0, .slice none 0 0, .bool false, .string ⟨#[]⟩, .int .u8 1, .pointer none, .pointer none]) ∧ Below W.heap.size W w' from by
    have := kth_any ⟨#[76, 65, 82, 71, 69]⟩ (ns.length - k) ns hok k ns.length rfl hk1 hkn (.inl ⟨rfl, rfl⟩) q vs p W (hc.below h) (ha.keep fun g hg => ⟨⟨Nat.zero_le _, Nat.lt_of_lt_of_le hg.2 h.size⟩, h.block g hg.2⟩)
    rw [hx]
    exact this))
  have HX := hide hx
  clear hc ha hok hx hk1 hkn
  go_enter Tryz.func26, Tryz.ntmps26
  go_wp2_with fail
  refine (HV.out _ (by (repeat' (first | (with_reducible exact Below.refl _ _) | (with_reducible assumption) | (with_reducible refine Below.setCell ?_ ?_ _) | (with_reducible refine Below.alloc ?_ ?_ _) | (with_reducible refine Below.drew ?_) | (with_reducible refine below_drewN ?_ _) | (with_reducible refine Below.trans ?_ (Below.mono (by assumption) ?_)) | (simp <;> omega) | omega)))).mono ?_
  rintro e w1 ⟨rfl, hb1⟩
  have HR2 := (Blk.new w 55 #[.string ⟨#[]⟩, .float .f64 0, .string ⟨#[]⟩, .slice none 0 0, .slice none 0 0, .bool false, .string ⟨#[]⟩, .int .u8 0, .pointer none, .pointer none]).below hb1 (by simp)
  have hz2 : w.heap.size < w1.heap.size := HR2.lt
  have q0 : w1.cell? ⟨w.heap.size, 0, none⟩ = some (.string ⟨#[]⟩) := HR2.cell 0
  have q1 : w1.cell? ⟨w.heap.size, 1, none⟩ = some (.float .f64 0) := HR2.cell 1
  have q2 : w1.cell? ⟨w.heap.size, 2, none⟩ = some (.string ⟨#[]⟩) := HR2.cell 2
  have q3 : w1.cell? ⟨w.heap.size, 3, none⟩ = some (.slice none 0 0) := HR2.cell 3
  have q4 : w1.cell? ⟨w.heap.size, 4, none⟩ = some (.slice none 0 0) := HR2.cell 4
  have q5 : w1.cell? ⟨w.heap.size, 5, none⟩ = some (.bool false) := HR2.cell 5
  have q6 : w1.cell? ⟨w.heap.size, 6, none⟩ = some (.string ⟨#[]⟩) := HR2.cell 6
  have q7 : w1.cell? ⟨w.heap.size, 7, none⟩ = some (.int .u8 0) := HR2.cell 7
  have q8 : w1.cell? ⟨w.heap.size, 8, none⟩ = some (.pointer none) := HR2.cell 8
  have q9 : w1.cell? ⟨w.heap.size, 9, none⟩ = some (.pointer none) := HR2.cell 9
  have fq : ∀ o, w1.frozen? ⟨w.heap.size, o, none⟩ = false := HR2.frozen
  clear HR2
  go_wp2_with fail
  refine bodyPost_ret (v := .agg #[.string ⟨#[]⟩, .float .f64 x, .string ⟨#[]⟩, .slice none 0 0, .slice none 0 0, .bool false, .string ⟨#[]⟩, .int .u8 1, .pointer none, .pointer none]) ?_ rfl ⟨x, HX.out, rfl, ?_⟩
  · simp [results, Tryz.results26, go_sem, q0, q1, q2, q3, q4, q5, q6, q7, q8, q9]
  · (repeat' (first | (with_reducible exact Below.refl _ _) | (with_reducible assumption) | (with_reducible refine Below.setCell ?_ ?_ _) | (with_reducible refine Below.alloc ?_ ?_ _) | (with_reducible refine Below.drew ?_) | (with_reducible refine below_drewN ?_ _) | (with_reducible refine Below.trans ?_ (Below.mono (by assumption) ?_)) | (simp <;> omega) | omega))
set_option maxRecDepth 100000 in
set_option maxHeartbeats 2000000 in
theorem SMALL_m (ns : List Int) (hok : OkAr (.col ns)) (k : Nat) (hk1 : 1 ≤ k) (hkn : k ≤ ns.length) : Mach 29 [.col ns, .num k] (fun x => x = word (nth ns (k - 1))) := by
  intro q vs p w hc ha
  obtain ⟨x, hx⟩ : ∃ x, x = word (nth ns (k - 1)) := ⟨_, rfl⟩
  have HV := hide (fun (W : World) (h : Below w.heap.size w W) => (show Calls Tryz.prog 34 #[p, .string ⟨#[83, 77, 65, 76, 76]⟩, .pointer (some ⟨q 0, 0, none⟩)] W fun e w' => e = .returned (.agg #[.string ⟨#[]⟩, .float .f64 x, .string ⟨#[]⟩, .slice none 0 0, .slice none 0 0, .bool false, .string ⟨#[]⟩, .int .u8 1, .pointer none, .pointer none]) ∧ Below W.heap.size W w' from by
    have := kth_any ⟨#[83, 77, 65, 76, 76]⟩ (k - 1) ns hok k ns.length rfl hk1 hkn (.inr ⟨rfl, rfl⟩) q vs p W (hc.below h) (ha.keep fun g hg => ⟨⟨Nat.zero_le _, Nat.lt_of_lt_of_le hg.2 h.size⟩, h.block g hg.2⟩)
    rw [hx]
    exact this))
  have HX := hide hx
  clear hc ha hok hx hk1 hkn
  go_enter Tryz.func29, Tryz.ntmps29
  go_wp2_with fail
  refine (HV.out _ (by (repeat' (first | (with_reducible exact Below.refl _ _) | (with_reducible assumption) | (with_reducible refine Below.setCell ?_ ?_ _) | (with_reducible refine Below.alloc ?_ ?_ _) | (with_reducible refine Below.drew ?_) | (with_reducible refine below_drewN ?_ _) | (with_reducible refine Below.trans ?_ (Below.mono (by assumption) ?_)) | (simp <;> omega) | omega)))).mono ?_
  rintro e w1 ⟨rfl, hb1⟩
  have HR2 := (Blk.new w 55 #[.string ⟨#[]⟩, .float .f64 0, .string ⟨#[]⟩, .slice none 0 0, .slice none 0 0, .bool false, .string ⟨#[]⟩, .int .u8 0, .pointer none, .pointer none]).below hb1 (by simp)
  have hz2 : w.heap.size < w1.heap.size := HR2.lt
  have q0 : w1.cell? ⟨w.heap.size, 0, none⟩ = some (.string ⟨#[]⟩) := HR2.cell 0
  have q1 : w1.cell? ⟨w.heap.size, 1, none⟩ = some (.float .f64 0) := HR2.cell 1
  have q2 : w1.cell? ⟨w.heap.size, 2, none⟩ = some (.string ⟨#[]⟩) := HR2.cell 2
  have q3 : w1.cell? ⟨w.heap.size, 3, none⟩ = some (.slice none 0 0) := HR2.cell 3
  have q4 : w1.cell? ⟨w.heap.size, 4, none⟩ = some (.slice none 0 0) := HR2.cell 4
  have q5 : w1.cell? ⟨w.heap.size, 5, none⟩ = some (.bool false) := HR2.cell 5
  have q6 : w1.cell? ⟨w.heap.size, 6, none⟩ = some (.string ⟨#[]⟩) := HR2.cell 6
  have q7 : w1.cell? ⟨w.heap.size, 7, none⟩ = some (.int .u8 0) := HR2.cell 7
  have q8 : w1.cell? ⟨w.heap.size, 8, none⟩ = some (.pointer none) := HR2.cell 8
  have q9 : w1.cell? ⟨w.heap.size, 9, none⟩ = some (.pointer none) := HR2.cell 9
  have fq : ∀ o, w1.frozen? ⟨w.heap.size, o, none⟩ = false := HR2.frozen
  clear HR2
  go_wp2_with fail
  refine bodyPost_ret (v := .agg #[.string ⟨#[]⟩, .float .f64 x, .string ⟨#[]⟩, .slice none 0 0, .slice none 0 0, .bool false, .string ⟨#[]⟩, .int .u8 1, .pointer none, .pointer none]) ?_ rfl ⟨x, HX.out, rfl, ?_⟩
  · simp [results, Tryz.results29, go_sem, q0, q1, q2, q3, q4, q5, q6, q7, q8, q9]
  · (repeat' (first | (with_reducible exact Below.refl _ _) | (with_reducible assumption) | (with_reducible refine Below.setCell ?_ ?_ _) | (with_reducible refine Below.alloc ?_ ?_ _) | (with_reducible refine Below.drew ?_) | (with_reducible refine below_drewN ?_ _) | (with_reducible refine Below.trans ?_ (Below.mono (by assumption) ?_)) | (simp <;> omega) | omega))
set_option maxRecDepth 100000 in
set_option maxHeartbeats 2000000 in
theorem door_LARGE (xs : List Ar) (P : Nat → Prop) (hm : Mach 26 xs P) (hok : ∀ x ∈ xs, OkAr x) (A : Option Addr) (n c lo : Nat) (hn : xs.length = n) (hn2 : n ≤ 1000) (w : World) (hr : RdL w (In lo w.heap.size) 4 okI A xs) :
    Calls Tryz.prog 15 #[.slice A n c] w (RetV P w) := by
  have HL := hide (fun (W : World) (h : Below w.heap.size w W) => innerList_args xs hok A n c lo hn hn2 W (hr.keep okI_keeps fun g hg => ⟨⟨hg.1, Nat.lt_of_lt_of_le hg.2 h.size⟩, h.block g hg.2⟩))
  have HM := hide hm
  clear hr hok hm
  go_enter Tryz.func15, Tryz.ntmps15
  go_wp2_with fail
  refine (doorFuncs_any _).mono ?_
  rintro e w1 ⟨⟨a, rfl⟩, hb1⟩
  have hbw1 : Below w.heap.size w w1 := (Below.alloc (Below.refl _ _) (Nat.le_refl _) _).trans (hb1.mono (by simp))
  have hR1 := (Blk.new w 42 #[.int .i64 0, .float .f64 0, .string ⟨#[]⟩, .slice none 0 0]).below hb1 (by simp)
  go_wp2_with fail
  refine (HL.out _ hbw1).mono ?_
  rintro e w2 ⟨q, vs, rfl, hch, hargs, hb2⟩
  have hbw2 : Below w.heap.size w w2 := hbw1.trans (hb2.mono hbw1.size)
  have hR2 := hR1.below hb2 hR1.lt
  have HC := hide (HM.out q vs (.pointer (some a)) w2 hch hargs)
  clear hch hargs
  go_wp2_with fail
  refine HC.out.mono ?_
  rintro e w3 ⟨x, hP, rfl, hb3⟩
  have hbw3 : Below w.heap.size w w3 := hbw2.trans (hb3.mono hbw2.size)
  have hR3 := hR2.below hb3 hR2.lt
  have HX := hide hP
  clear hP HC
  go_wp2_with fail
  refine (doorNum x _).mono ?_
  rintro e w4 ⟨rfl, hb4⟩
  have hbw4 : Below w.heap.size w w4 := hbw3.trans (hb4.mono hbw3.size)
  have hR4 := hR3.below hb4 hR3.lt
  have hz4 : w.heap.size < w4.heap.size := hR4.lt
  have q0 : w4.cell? ⟨w.heap.size, 0, none⟩ = some (.int .i64 0) := hR4.cell 0
  have q1 : w4.cell? ⟨w.heap.size, 1, none⟩ = some (.float .f64 0) := hR4.cell 1
  have q2 : w4.cell? ⟨w.heap.size, 2, none⟩ = some (.string ⟨#[]⟩) := hR4.cell 2
  have q3 : w4.cell? ⟨w.heap.size, 3, none⟩ = some (.slice none 0 0) := hR4.cell 3
  have fq : ∀ o, w4.frozen? ⟨w.heap.size, o, none⟩ = false := hR4.frozen
  clear hR1 hR2 hR3 hR4 hb1 hb2 hb3 hb4 hbw1 hbw2 hbw3
  go_wp2_with fail
  refine bodyPost_ret (v := .agg #[.int .i64 1, .float .f64 x, .string ⟨#[]⟩, .slice none 0 0]) ?_ rfl ⟨x, HX.out, rfl, ?_⟩
  · simp [results, Tryz.results15, go_sem, q0, q1, q2, q3]
  · (repeat' (first | (with_reducible exact Below.refl _ _) | (with_reducible assumption) | (with_reducible refine Below.setCell ?_ ?_ _) | (with_reducible refine Below.alloc ?_ ?_ _) | (with_reducible refine Below.drew ?_) | (with_reducible refine below_drewN ?_ _) | (with_reducible refine Below.trans ?_ (Below.mono (by assumption) ?_)) | (simp <;> omega) | omega))
set_option maxRecDepth 100000 in
set_option maxHeartbeats 2000000 in
theorem impl_LARGE (xs : List Ar) (P : Nat → Prop) (hm : Mach 26 xs P) (hok : ∀ x ∈ xs, OkAr x) (A : Option Addr) (n c lo : Nat) (hn : xs.length = n) (hn2 : n ≤ 1000) (w : World) (hr : RdL w (In lo w.heap.size) 4 okI A xs) :
    Calls Tryz.prog 6 #[.slice A n c] w (RetV P w) := by
  have HL := hide (fun (W : World) (h : Below w.heap.size w W) => in_args xs hok A n c lo hn hn2 W (hr.keep okI_keeps fun g hg => ⟨⟨hg.1, Nat.lt_of_lt_of_le hg.2 h.size⟩, h.block g hg.2⟩))
  have HD := hide (fun (A : Option Addr) (c lo : Nat) (W : World) (hr : RdL W (In lo W.heap.size) 4 okI A xs) => door_LARGE xs P hm hok A n c lo hn hn2 W hr)
  have HN := hide hn
  clear hr hok hm hn
  go_enter Tryz.func6, Tryz.ntmps6
  go_wp2_with fail
  refine (HL.out _ (by (repeat' (first | (with_reducible exact Below.refl _ _) | (with_reducible assumption) | (with_reducible refine Below.setCell ?_ ?_ _) | (with_reducible refine Below.alloc ?_ ?_ _) | (with_reducible refine Below.drew ?_) | (with_reducible refine below_drewN ?_ _) | (with_reducible refine Below.trans ?_ (Below.mono (by assumption) ?_)) | (simp <;> omega) | omega)))).mono ?_
  rintro e w1 ⟨A1, c1, rfl, hr1, hb1⟩
  rw [HN.out]
  have hbw1 : Below w.heap.size w w1 := (Below.alloc (Below.refl _ _) (Nat.le_refl _) _).trans (hb1.mono (by simp))
  have hR1 := (Blk.new w 27 #[.int .i64 0, .float .f64 0, .string ⟨#[]⟩, .slice none 0 0]).below hb1 (by simp)
  have HD1 := hide (HD.out A1 c1 _ w1 hr1)
  clear hr1
  go_wp2_with fail
  refine HD1.out.mono ?_
  rintro e w2 ⟨x, hP, rfl, hb2⟩
  have hbw2 : Below w.heap.size w w2 := hbw1.trans (hb2.mono hbw1.size)
  have hR2 := hR1.below hb2 hR1.lt
  have HX := hide hP
  clear hP
  go_wp2_with fail
  refine (out_any 1 x ⟨#[]⟩ _).mono ?_
  rintro e w4 ⟨rfl, hb4⟩
  have hbw4 : Below w.heap.size w w4 := hbw2.trans (hb4.mono hbw2.size)
  have hR4 := hR2.below hb4 hR2.lt
  have hz4 : w.heap.size < w4.heap.size := hR4.lt
  have q0 : w4.cell? ⟨w.heap.size, 0, none⟩ = some (.int .i64 0) := hR4.cell 0
  have q1 : w4.cell? ⟨w.heap.size, 1, none⟩ = some (.float .f64 0) := hR4.cell 1
  have q2 : w4.cell? ⟨w.heap.size, 2, none⟩ = some (.string ⟨#[]⟩) := hR4.cell 2
  have q3 : w4.cell? ⟨w.heap.size, 3, none⟩ = some (.slice none 0 0) := hR4.cell 3
  have fq : ∀ o, w4.frozen? ⟨w.heap.size, o, none⟩ = false := hR4.frozen
  clear hR1 hR2 hR4 hb1 hb2 hb4 hbw1 hbw2 HD HD1 HL
  go_wp2_with fail
  refine bodyPost_ret (v := .agg #[.int .i64 1, .float .f64 x, .string ⟨#[]⟩, .slice none 0 0]) ?_ rfl ⟨x, HX.out, rfl, ?_⟩
  · simp [results, Tryz.results6, go_sem, q0, q1, q2, q3]
  · (repeat' (first | (with_reducible exact Below.refl _ _) | (with_reducible assumption) | (with_reducible refine Below.setCell ?_ ?_ _) | (with_reducible refine Below.alloc ?_ ?_ _) | (with_reducible refine Below.drew ?_) | (with_reducible refine below_drewN ?_ _) | (with_reducible refine Below.trans ?_ (Below.mono (by assumption) ?_)) | (simp <;> omega) | omega))
set_option maxRecDepth 100000 in
set_option maxHeartbeats 2000000 in
theorem ask_LARGE (xs : List Ar) (P : Nat → Prop) (hm : Mach 26 xs P) (hok : ∀ x ∈ xs, OkAr x) (A : Option Addr) (n c lo : Nat) (hn : xs.length = n) (hn2 : n ≤ 1000) (w : World) (hr : RdL w (In lo w.heap.size) 5 okS A xs) :
    Calls Tryz.prog 5 #[.func (.func 6) #[] #[], .slice A n c] w (RetV P w) := by
  have HL := hide (fun (W : World) (h : Below w.heap.size w W) => all_args xs hok A n c lo hn hn2 W (hr.keep okS_keeps fun g hg => ⟨⟨hg.1, Nat.lt_of_lt_of_le hg.2 h.size⟩, h.block g hg.2⟩))
  have HD := hide (fun (A : Option Addr) (c lo : Nat) (W : World) (hr : RdL W (In lo W.heap.size) 4 okI A xs) => impl_LARGE xs P hm hok A n c lo hn hn2 W hr)
  have HN := hide hn
  clear hr hok hm hn
  go_enter Tryz.func5, Tryz.ntmps5
  go_wp2_with fail
  refine (HL.out _ (by (repeat' (first | (with_reducible exact Below.refl _ _) | (with_reducible assumption) | (with_reducible refine Below.setCell ?_ ?_ _) | (with_reducible refine Below.alloc ?_ ?_ _) | (with_reducible refine Below.drew ?_) | (with_reducible refine below_drewN ?_ _) | (with_reducible refine Below.trans ?_ (Below.mono (by assumption) ?_)) | (simp <;> omega) | omega)))).mono ?_
  rintro e w1 ⟨A1, c1, rfl, hr1, hb1⟩
  rw [HN.out]
  have hbw1 : Below w.heap.size w w1 := (Below.alloc (Below.refl _ _) (Nat.le_refl _) _).trans (hb1.mono (by simp))
  have hR1 := (Blk.new w 27 #[.int .i64 0, .float .f64 0, .string ⟨#[]⟩, .slice none 0 0]).below hb1 (by simp)
  have HD1 := hide (HD.out A1 c1 _ w1 hr1)
  clear hr1
  go_wp2_with fail
  refine HD1.out.mono ?_
  rintro e w4 ⟨x, hP, rfl, hb4⟩
  have hbw4 : Below w.heap.size w w4 := hbw1.trans (hb4.mono hbw1.size)
  have hR4 := hR1.below hb4 hR1.lt
  have HX := hide hP
  have hz4 : w.heap.size < w4.heap.size := hR4.lt
  have q0 : w4.cell? ⟨w.heap.size, 0, none⟩ = some (.int .i64 0) := hR4.cell 0
  have q1 : w4.cell? ⟨w.heap.size, 1, none⟩ = some (.float .f64 0) := hR4.cell 1
  have q2 : w4.cell? ⟨w.heap.size, 2, none⟩ = some (.string ⟨#[]⟩) := hR4.cell 2
  have q3 : w4.cell? ⟨w.heap.size, 3, none⟩ = some (.slice none 0 0) := hR4.cell 3
  have fq : ∀ o, w4.frozen? ⟨w.heap.size, o, none⟩ = false := hR4.frozen
  clear hR1 hR4 hb1 hb4 hbw1 HD HD1 HL hP
  go_wp2_with fail
  refine bodyPost_ret (v := .agg #[.int .i64 1, .float .f64 x, .string ⟨#[]⟩, .slice none 0 0]) ?_ rfl ⟨x, HX.out, rfl, ?_⟩
  · simp [results, Tryz.results5, go_sem, q0, q1, q2, q3]
  · (repeat' (first | (with_reducible exact Below.refl _ _) | (with_reducible assumption) | (with_reducible refine Below.setCell ?_ ?_ _) | (with_reducible refine Below.alloc ?_ ?_ _) | (with_reducible refine Below.drew ?_) | (with_reducible refine below_drewN ?_ _) | (with_reducible refine Below.trans ?_ (Below.mono (by assumption) ?_)) | (simp <;> omega) | omega))
set_option maxRecDepth 100000 in
set_option maxHeartbeats 2000000 in
theorem door_SMALL (xs : List Ar) (P : Nat → Prop) (hm : Mach 29 xs P) (hok : ∀ x ∈ xs, OkAr x) (A : Option Addr) (n c lo : Nat) (hn : xs.length = n) (hn2 : n ≤ 1000) (w : World) (hr : RdL w (In lo w.heap.size) 4 okI A xs) :
    Calls Tryz.prog 19 #[.slice A n c] w (RetV P w) := by
  have HL := hide (fun (W : World) (h : Below w.heap.size w W) => innerList_args xs hok A n c lo hn hn2 W (hr.keep okI_keeps fun g hg => ⟨⟨hg.1, Nat.lt_of_lt_of_le hg.2 h.size⟩, h.block g hg.2⟩))
  have HM := hide hm
  clear hr hok hm
  go_enter Tryz.func19, Tryz.ntmps19
  go_wp2_with fail
  refine (doorFuncs_any _).mono ?_
  rintro e w1 ⟨⟨a, rfl⟩, hb1⟩
  have hbw1 : Below w.heap.size w w1 := (Below.alloc (Below.refl _ _) (Nat.le_refl _) _).trans (hb1.mono (by simp))
  have hR1 := (Blk.new w 42 #[.int .i64 0, .float .f64 0, .string ⟨#[]⟩, .slice none 0 0]).below hb1 (by simp)
  go_wp2_with fail
  refine (HL.out _ hbw1).mono ?_
  rintro e w2 ⟨q, vs, rfl, hch, hargs, hb2⟩
  have hbw2 : Below w.heap.size w w2 := hbw1.trans (hb2.mono hbw1.size)
  have hR2 := hR1.below hb2 hR1.lt
  have HC := hide (HM.out q vs (.pointer (some a)) w2 hch hargs)
  clear hch hargs
  go_wp2_with fail
  refine HC.out.mono ?_
  rintro e w3 ⟨x, hP, rfl, hb3⟩
  have hbw3 : Below w.heap.size w w3 := hbw2.trans (hb3.mono hbw2.size)
  have hR3 := hR2.below hb3 hR2.lt
  have HX := hide hP
  clear hP HC
  go_wp2_with fail
  refine (doorNum x _).mono ?_
  rintro e w4 ⟨rfl, hb4⟩
  have hbw4 : Below w.heap.size w w4 := hbw3.trans (hb4.mono hbw3.size)
  have hR4 := hR3.below hb4 hR3.lt
  have hz4 : w.heap.size < w4.heap.size := hR4.lt
  have q0 : w4.cell? ⟨w.heap.size, 0, none⟩ = some (.int .i64 0) := hR4.cell 0
  have q1 : w4.cell? ⟨w.heap.size, 1, none⟩ = some (.float .f64 0) := hR4.cell 1
  have q2 : w4.cell? ⟨w.heap.size, 2, none⟩ = some (.string ⟨#[]⟩) := hR4.cell 2
  have q3 : w4.cell? ⟨w.heap.size, 3, none⟩ = some (.slice none 0 0) := hR4.cell 3
  have fq : ∀ o, w4.frozen? ⟨w.heap.size, o, none⟩ = false := hR4.frozen
  clear hR1 hR2 hR3 hR4 hb1 hb2 hb3 hb4 hbw1 hbw2 hbw3
  go_wp2_with fail
  refine bodyPost_ret (v := .agg #[.int .i64 1, .float .f64 x, .string ⟨#[]⟩, .slice none 0 0]) ?_ rfl ⟨x, HX.out, rfl, ?_⟩
  · simp [results, Tryz.results19, go_sem, q0, q1, q2, q3]
  · (repeat' (first | (with_reducible exact Below.refl _ _) | (with_reducible assumption) | (with_reducible refine Below.setCell ?_ ?_ _) | (with_reducible refine Below.alloc ?_ ?_ _) | (with_reducible refine Below.drew ?_) | (with_reducible refine below_drewN ?_ _) | (with_reducible refine Below.trans ?_ (Below.mono (by assumption) ?_)) | (simp <;> omega) | omega))
set_option maxRecDepth 100000 in
set_option maxHeartbeats 2000000 in
theorem impl_SMALL (xs : List Ar) (P : Nat → Prop) (hm : Mach 29 xs P) (hok : ∀ x ∈ xs, OkAr x) (A : Option Addr) (n c lo : Nat) (hn : xs.length = n) (hn2 : n ≤ 1000) (w : World) (hr : RdL w (In lo w.heap.size) 4 okI A xs) :
    Calls Tryz.prog 9 #[.slice A n c] w (RetV P w) := by
  have HL := hide (fun (W : World) (h : Below w.heap.size w W) => in_args xs hok A n c lo hn hn2 W (hr.keep okI_keeps fun g hg => ⟨⟨hg.1, Nat.lt_of_lt_of_le hg.2 h.size⟩, h.block g hg.2⟩))
  have HD := hide (fun (A : Option Addr) (c lo : Nat) (W : World) (hr : RdL W (In lo W.heap.size) 4 okI A xs) => door_SMALL xs P hm hok A n c lo hn hn2 W hr)
  have HN := hide hn
  clear hr hok hm hn
  go_enter Tryz.func9, Tryz.ntmps9
  go_wp2_with fail
  refine (HL.out _ (by (repeat' (first | (with_reducible exact Below.refl _ _) | (with_reducible assumption) | (with_reducible refine Below.setCell ?_ ?_ _) | (with_reducible refine Below.alloc ?_ ?_ _) | (with_reducible refine Below.drew ?_) | (with_reducible refine below_drewN ?_ _) | (with_reducible refine Below.trans ?_ (Below.mono (by assumption) ?_)) | (simp <;> omega) | omega)))).mono ?_
  rintro e w1 ⟨A1, c1, rfl, hr1, hb1⟩
  rw [HN.out]
  have hbw1 : Below w.heap.size w w1 := (Below.alloc (Below.refl _ _) (Nat.le_refl _) _).trans (hb1.mono (by simp))
  have hR1 := (Blk.new w 27 #[.int .i64 0, .float .f64 0, .string ⟨#[]⟩, .slice none 0 0]).below hb1 (by simp)
  have HD1 := hide (HD.out A1 c1 _ w1 hr1)
  clear hr1
  go_wp2_with fail
  refine HD1.out.mono ?_
  rintro e w2 ⟨x, hP, rfl, hb2⟩
  have hbw2 : Below w.heap.size w w2 := hbw1.trans (hb2.mono hbw1.size)
  have hR2 := hR1.below hb2 hR1.lt
  have HX := hide hP
  clear hP
  go_wp2_with fail
  refine (out_any 1 x ⟨#[]⟩ _).mono ?_
  rintro e w4 ⟨rfl, hb4⟩
  have hbw4 : Below w.heap.size w w4 := hbw2.trans (hb4.mono hbw2.size)
  have hR4 := hR2.below hb4 hR2.lt
  have hz4 : w.heap.size < w4.heap.size := hR4.lt
  have q0 : w4.cell? ⟨w.heap.size, 0, none⟩ = some (.int .i64 0) := hR4.cell 0
  have q1 : w4.cell? ⟨w.heap.size, 1, none⟩ = some (.float .f64 0) := hR4.cell 1
  have q2 : w4.cell? ⟨w.heap.size, 2, none⟩ = some (.string ⟨#[]⟩) := hR4.cell 2
  have q3 : w4.cell? ⟨w.heap.size, 3, none⟩ = some (.slice none 0 0) := hR4.cell 3
  have fq : ∀ o, w4.frozen? ⟨w.heap.size, o, none⟩ = false := hR4.frozen
  clear hR1 hR2 hR4 hb1 hb2 hb4 hbw1 hbw2 HD HD1 HL
  go_wp2_with fail
  refine bodyPost_ret (v := .agg #[.int .i64 1, .float .f64 x, .string ⟨#[]⟩, .slice none 0 0]) ?_ rfl ⟨x, HX.out, rfl, ?_⟩
  · simp [results, Tryz.results9, go_sem, q0, q1, q2, q3]
  · (repeat' (first | (with_reducible exact Below.refl _ _) | (with_reducible assumption) | (with_reducible refine Below.setCell ?_ ?_ _) | (with_reducible refine Below.alloc ?_ ?_ _) | (with_reducible refine Below.drew ?_) | (with_reducible refine below_drewN ?_ _) | (with_reducible refine Below.trans ?_ (Below.mono (by assumption) ?_)) | (simp <;> omega) | omega))
set_option maxRecDepth 100000 in
set_option maxHeartbeats 2000000 in
theorem ask_SMALL (xs : List Ar) (P : Nat → Prop) (hm : Mach 29 xs P) (hok : ∀ x ∈ xs, OkAr x) (A : Option Addr) (n c lo : Nat) (hn : xs.length = n) (hn2 : n ≤ 1000) (w : World) (hr : RdL w (In lo w.heap.size) 5 okS A xs) :
    Calls Tryz.prog 5 #[.func (.func 9) #[] #[], .slice A n c] w (RetV P w) := by
  have HL := hide (fun (W : World) (h : Below w.heap.size w W) => all_args xs hok A n c lo hn hn2 W (hr.keep okS_keeps fun g hg => ⟨⟨hg.1, Nat.lt_of_lt_of_le hg.2 h.size⟩, h.block g hg.2⟩))
  have HD := hide (fun (A : Option Addr) (c lo : Nat) (W : World) (hr : RdL W (In lo W.heap.size) 4 okI A xs) => impl_SMALL xs P hm hok A n c lo hn hn2 W hr)
  have HN := hide hn
  clear hr hok hm hn
  go_enter Tryz.func5, Tryz.ntmps5
  go_wp2_with fail
  refine (HL.out _ (by (repeat' (first | (with_reducible exact Below.refl _ _) | (with_reducible assumption) | (with_reducible refine Below.setCell ?_ ?_ _) | (with_reducible refine Below.alloc ?_ ?_ _) | (with_reducible refine Below.drew ?_) | (with_reducible refine below_drewN ?_ _) | (with_reducible refine Below.trans ?_ (Below.mono (by assumption) ?_)) | (simp <;> omega) | omega)))).mono ?_
  rintro e w1 ⟨A1, c1, rfl, hr1, hb1⟩
  rw [HN.out]
  have hbw1 : Below w.heap.size w w1 := (Below.alloc (Below.refl _ _) (Nat.le_refl _) _).trans (hb1.mono (by simp))
  have hR1 := (Blk.new w 27 #[.int .i64 0, .float .f64 0, .string ⟨#[]⟩, .slice none 0 0]).below hb1 (by simp)
  have HD1 := hide (HD.out A1 c1 _ w1 hr1)
  clear hr1
  go_wp2_with fail
  refine HD1.out.mono ?_
  rintro e w4 ⟨x, hP, rfl, hb4⟩
  have hbw4 : Below w.heap.size w w4 := hbw1.trans (hb4.mono hbw1.size)
  have hR4 := hR1.below hb4 hR1.lt
  have HX := hide hP
  have hz4 : w.heap.size < w4.heap.size := hR4.lt
  have q0 : w4.cell? ⟨w.heap.size, 0, none⟩ = some (.int .i64 0) := hR4.cell 0
  have q1 : w4.cell? ⟨w.heap.size, 1, none⟩ = some (.float .f64 0) := hR4.cell 1
  have q2 : w4.cell? ⟨w.heap.size, 2, none⟩ = some (.string ⟨#[]⟩) := hR4.cell 2
  have q3 : w4.cell? ⟨w.heap.size, 3, none⟩ = some (.slice none 0 0) := hR4.cell 3
  have fq : ∀ o, w4.frozen? ⟨w.heap.size, o, none⟩ = false := hR4.frozen
  clear hR1 hR4 hb1 hb4 hbw1 HD HD1 HL hP
  go_wp2_with fail
  refine bodyPost_ret (v := .agg #[.int .i64 1, .float .f64 x, .string ⟨#[]⟩, .slice none 0 0]) ?_ rfl ⟨x, HX.out, rfl, ?_⟩
  · simp [results, Tryz.results5, go_sem, q0, q1, q2, q3]
  · (repeat' (first | (with_reducible exact Below.refl _ _) | (with_reducible assumption) | (with_reducible refine Below.setCell ?_ ?_ _) | (with_reducible refine Below.alloc ?_ ?_ _) | (with_reducible refine Below.drew ?_) | (with_reducible refine below_drewN ?_ _) | (with_reducible refine Below.trans ?_ (Below.mono (by assumption) ?_)) | (simp <;> omega) | omega))
set_option maxRecDepth 100000 in
set_option maxHeartbeats 2000000 in
theorem door_SUM (xs : List Ar) (P : Nat → Prop) (hm : Mach 30 xs P) (hok : ∀ x ∈ xs, OkAr x) (A : Option Addr) (n c lo : Nat) (hn : xs.length = n) (hn2 : n ≤ 1000) (w : World) (hr : RdL w (In lo w.heap.size) 4 okI A xs) :
    Calls Tryz.prog 20 #[.slice A n c] w (RetV P w) := by
  have HL := hide (fun (W : World) (h : Below w.heap.size w W) => innerList_args xs hok A n c lo hn hn2 W (hr.keep okI_keeps fun g hg => ⟨⟨hg.1, Nat.lt_of_lt_of_le hg.2 h.size⟩, h.block g hg.2⟩))
  have HM := hide hm
  clear hr hok hm
  go_enter Tryz.func20, Tryz.ntmps20
  go_wp2_with fail
  refine (doorFuncs_any _).mono ?_
  rintro e w1 ⟨⟨a, rfl⟩, hb1⟩
  have hbw1 : Below w.heap.size w w1 := (Below.alloc (Below.refl _ _) (Nat.le_refl _) _).trans (hb1.mono (by simp))
  have hR1 := (Blk.new w 42 #[.int .i64 0, .float .f64 0, .string ⟨#[]⟩, .slice none 0 0]).below hb1 (by simp)
  go_wp2_with fail
  refine (HL.out _ hbw1).mono ?_
  rintro e w2 ⟨q, vs, rfl, hch, hargs, hb2⟩
  have hbw2 : Below w.heap.size w w2 := hbw1.trans (hb2.mono hbw1.size)
  have hR2 := hR1.below hb2 hR1.lt
  have HC := hide (HM.out q vs (.pointer (some a)) w2 hch hargs)
  clear hch hargs
  go_wp2_with fail
  refine HC.out.mono ?_
  rintro e w3 ⟨x, hP, rfl, hb3⟩
  have hbw3 : Below w.heap.size w w3 := hbw2.trans (hb3.mono hbw2.size)
  have hR3 := hR2.below hb3 hR2.lt
  have HX := hide hP
  clear hP HC
  go_wp2_with fail
  refine (doorNum x _).mono ?_
  rintro e w4 ⟨rfl, hb4⟩
  have hbw4 : Below w.heap.size w w4 := hbw3.trans (hb4.mono hbw3.size)
  have hR4 := hR3.below hb4 hR3.lt
  have hz4 : w.heap.size < w4.heap.size := hR4.lt
  have q0 : w4.cell? ⟨w.heap.size, 0, none⟩ = some (.int .i64 0) := hR4.cell 0
  have q1 : w4.cell? ⟨w.heap.size, 1, none⟩ = some (.float .f64 0) := hR4.cell 1
  have q2 : w4.cell? ⟨w.heap.size, 2, none⟩ = some (.string ⟨#[]⟩) := hR4.cell 2
  have q3 : w4.cell? ⟨w.heap.size, 3, none⟩ = some (.slice none 0 0) := hR4.cell 3
  have fq : ∀ o, w4.frozen? ⟨w.heap.size, o, none⟩ = false := hR4.frozen
  clear hR1 hR2 hR3 hR4 hb1 hb2 hb3 hb4 hbw1 hbw2 hbw3
  go_wp2_with fail
  refine bodyPost_ret (v := .agg #[.int .i64 1, .float .f64 x, .string ⟨#[]⟩, .slice none 0 0]) ?_ rfl ⟨x, HX.out, rfl, ?_⟩
  · simp [results, Tryz.results20, go_sem, q0, q1, q2, q3]
  · (repeat' (first | (with_reducible exact Below.refl _ _) | (with_reducible assumption) | (with_reducible refine Below.setCell ?_ ?_ _) | (with_reducible refine Below.alloc ?_ ?_ _) | (with_reducible refine Below.drew ?_) | (with_reducible refine below_drewN ?_ _) | (with_reducible refine Below.trans ?_ (Below.mono (by assumption) ?_)) | (simp <;> omega) | omega))
set_option maxRecDepth 100000 in
set_option maxHeartbeats 2000000 in
theorem impl_SUM (xs : List Ar) (P : Nat → Prop) (hm : Mach 30 xs P) (hok : ∀ x ∈ xs, OkAr x) (A : Option Addr) (n c lo : Nat) (hn : xs.length = n) (hn2 : n ≤ 1000) (w : World) (hr : RdL w (In lo w.heap.size) 4 okI A xs) :
    Calls Tryz.prog 10 #[.slice A n c] w (RetV P w) := by
  have HL := hide (fun (W : World) (h : Below w.heap.size w W) => in_args xs hok A n c lo hn hn2 W (hr.keep okI_keeps fun g hg => ⟨⟨hg.1, Nat.lt_of_lt_of_le hg.2 h.size⟩, h.block g hg.2⟩))
  have HD := hide (fun (A : Option Addr) (c lo : Nat) (W : World) (hr : RdL W (In lo W.heap.size) 4 okI A xs) => door_SUM xs P hm hok A n c lo hn hn2 W hr)
  have HN := hide hn
  clear hr hok hm hn
  go_enter Tryz.func10, Tryz.ntmps10
  go_wp2_with fail
  refine (HL.out _ (by (repeat' (first | (with_reducible exact Below.refl _ _) | (with_reducible assumption) | (with_reducible refine Below.setCell ?_ ?_ _) | (with_reducible refine Below.alloc ?_ ?_ _) | (with_reducible refine Below.drew ?_) | (with_reducible refine below_drewN ?_ _) | (with_reducible refine Below.trans ?_ (Below.mono (by assumption) ?_)) | (simp <;> omega) | omega)))).mono ?_
  rintro e w1 ⟨A1, c1, rfl, hr1, hb1⟩
  rw [HN.out]
  have hbw1 : Below w.heap.size w w1 := (Below.alloc (Below.refl _ _) (Nat.le_refl _) _).trans (hb1.mono (by simp))
  have hR1 := (Blk.new w 27 #[.int .i64 0, .float .f64 0, .string ⟨#[]⟩, .slice none 0 0]).below hb1 (by simp)
  have HD1 := hide (HD.out A1 c1 _ w1 hr1)
  clear hr1
  go_wp2_with fail
  refine HD1.out.mono ?_
  rintro e w2 ⟨x, hP, rfl, hb2⟩
  have hbw2 : Below w.heap.size w w2 := hbw1.trans (hb2.mono hbw1.size)
  have hR2 := hR1.below hb2 hR1.lt
  have HX := hide hP
  clear hP
  go_wp2_with fail
  refine (out_any 1 x ⟨#[]⟩ _).mono ?_
  rintro e w4 ⟨rfl, hb4⟩
  have hbw4 : Below w.heap.size w w4 := hbw2.trans (hb4.mono hbw2.size)
  have hR4 := hR2.below hb4 hR2.lt
  have hz4 : w.heap.size < w4.heap.size := hR4.lt
  have q0 : w4.cell? ⟨w.heap.size, 0, none⟩ = some (.int .i64 0) := hR4.cell 0
  have q1 : w4.cell? ⟨w.heap.size, 1, none⟩ = some (.float .f64 0) := hR4.cell 1
  have q2 : w4.cell? ⟨w.heap.size, 2, none⟩ = some (.string ⟨#[]⟩) := hR4.cell 2
  have q3 : w4.cell? ⟨w.heap.size, 3, none⟩ = some (.slice none 0 0) := hR4.cell 3
  have fq : ∀ o, w4.frozen? ⟨w.heap.size, o, none⟩ = false := hR4.frozen
  clear hR1 hR2 hR4 hb1 hb2 hb4 hbw1 hbw2 HD HD1 HL
  go_wp2_with fail
  refine bodyPost_ret (v := .agg #[.int .i64 1, .float .f64 x, .string ⟨#[]⟩, .slice none 0 0]) ?_ rfl ⟨x, HX.out, rfl, ?_⟩
  · simp [results, Tryz.results10, go_sem, q0, q1, q2, q3]
  · (repeat' (first | (with_reducible exact Below.refl _ _) | (with_reducible assumption) | (with_reducible refine Below.setCell ?_ ?_ _) | (with_reducible refine Below.alloc ?_ ?_ _) | (with_reducible refine Below.drew ?_) | (with_reducible refine below_drewN ?_ _) | (with_reducible refine Below.trans ?_ (Below.mono (by assumption) ?_)) | (simp <;> omega) | omega))
set_option maxRecDepth 100000 in
set_option maxHeartbeats 2000000 in
theorem ask_SUM (xs : List Ar) (P : Nat → Prop) (hm : Mach 30 xs P) (hok : ∀ x ∈ xs, OkAr x) (A : Option Addr) (n c lo : Nat) (hn : xs.length = n) (hn2 : n ≤ 1000) (w : World) (hr : RdL w (In lo w.heap.size) 5 okS A xs) :
    Calls Tryz.prog 5 #[.func (.func 10) #[] #[], .slice A n c] w (RetV P w) := by
  have HL := hide (fun (W : World) (h : Below w.heap.size w W) => all_args xs hok A n c lo hn hn2 W (hr.keep okS_keeps fun g hg => ⟨⟨hg.1, Nat.lt_of_lt_of_le hg.2 h.size⟩, h.block g hg.2⟩))
  have HD := hide (fun (A : Option Addr) (c lo : Nat) (W : World) (hr : RdL W (In lo W.heap.size) 4 okI A xs) => impl_SUM xs P hm hok A n c lo hn hn2 W hr)
  have HN := hide hn
  clear hr hok hm hn
  go_enter Tryz.func5, Tryz.ntmps5
  go_wp2_with fail
  refine (HL.out _ (by (repeat' (first | (with_reducible exact Below.refl _ _) | (with_reducible assumption) | (with_reducible refine Below.setCell ?_ ?_ _) | (with_reducible refine Below.alloc ?_ ?_ _) | (with_reducible refine Below.drew ?_) | (with_reducible refine below_drewN ?_ _) | (with_reducible refine Below.trans ?_ (Below.mono (by assumption) ?_)) | (simp <;> omega) | omega)))).mono ?_
  rintro e w1 ⟨A1, c1, rfl, hr1, hb1⟩
  rw [HN.out]
  have hbw1 : Below w.heap.size w w1 := (Below.alloc (Below.refl _ _) (Nat.le_refl _) _).trans (hb1.mono (by simp))
  have hR1 := (Blk.new w 27 #[.int .i64 0, .float .f64 0, .string ⟨#[]⟩, .slice none 0 0]).below hb1 (by simp)
  have HD1 := hide (HD.out A1 c1 _ w1 hr1)
  clear hr1
  go_wp2_with fail
  refine HD1.out.mono ?_
  rintro e w4 ⟨x, hP, rfl, hb4⟩
  have hbw4 : Below w.heap.size w w4 := hbw1.trans (hb4.mono hbw1.size)
  have hR4 := hR1.below hb4 hR1.lt
  have HX := hide hP
  have hz4 : w.heap.size < w4.heap.size := hR4.lt
  have q0 : w4.cell? ⟨w.heap.size, 0, none⟩ = some (.int .i64 0) := hR4.cell 0
  have q1 : w4.cell? ⟨w.heap.size, 1, none⟩ = some (.float .f64 0) := hR4.cell 1
  have q2 : w4.cell? ⟨w.heap.size, 2, none⟩ = some (.string ⟨#[]⟩) := hR4.cell 2
  have q3 : w4.cell? ⟨w.heap.size, 3, none⟩ = some (.slice none 0 0) := hR4.cell 3
  have fq : ∀ o, w4.frozen? ⟨w.heap.size, o, none⟩ = false := hR4.frozen
  clear hR1 hR4 hb1 hb4 hbw1 HD HD1 HL hP
  go_wp2_with fail
  refine bodyPost_ret (v := .agg #[.int .i64 1, .float .f64 x, .string ⟨#[]⟩, .slice none 0 0]) ?_ rfl ⟨x, HX.out, rfl, ?_⟩
  · simp [results, Tryz.results5, go_sem, q0, q1, q2, q3]
  · (repeat' (first | (with_reducible exact Below.refl _ _) | (with_reducible assumption) | (with_reducible refine Below.setCell ?_ ?_ _) | (with_reducible refine Below.alloc ?_ ?_ _) | (with_reducible refine Below.drew ?_) | (with_reducible refine below_drewN ?_ _) | (with_reducible refine Below.trans ?_ (Below.mono (by assumption) ?_)) | (simp <;> omega) | omega))
set_option maxRecDepth 100000 in
set_option maxHeartbeats 2000000 in
theorem door_MAX (xs : List Ar) (P : Nat → Prop) (hm : Mach 31 xs P) (hok : ∀ x ∈ xs, OkAr x) (A : Option Addr) (n c lo : Nat) (hn : xs.length = n) (hn2 : n ≤ 1000) (w : World) (hr : RdL w (In lo w.heap.size) 4 okI A xs) :
    Calls Tryz.prog 21 #[.slice A n c] w (RetV P w) := by
  have HL := hide (fun (W : World) (h : Below w.heap.size w W) => innerList_args xs hok A n c lo hn hn2 W (hr.keep okI_keeps fun g hg => ⟨⟨hg.1, Nat.lt_of_lt_of_le hg.2 h.size⟩, h.block g hg.2⟩))
  have HM := hide hm
  clear hr hok hm
  go_enter Tryz.func21, Tryz.ntmps21
  go_wp2_with fail
  refine (doorFuncs_any _).mono ?_
  rintro e w1 ⟨⟨a, rfl⟩, hb1⟩
  have hbw1 : Below w.heap.size w w1 := (Below.alloc (Below.refl _ _) (Nat.le_refl _) _).trans (hb1.mono (by simp))
  have hR1 := (Blk.new w 42 #[.int .i64 0, .float .f64 0, .string ⟨#[]⟩, .slice none 0 0]).below hb1 (by simp)
  go_wp2_with fail
  refine (HL.out _ hbw1).mono ?_
  rintro e w2 ⟨q, vs, rfl, hch, hargs, hb2⟩
  have hbw2 : Below w.heap.size w w2 := hbw1.trans (hb2.mono hbw1.size)
  have hR2 := hR1.below hb2 hR1.lt
  have HC := hide (HM.out q vs (.pointer (some a)) w2 hch hargs)
  clear hch hargs
  go_wp2_with fail
  refine HC.out.mono ?_
  rintro e w3 ⟨x, hP, rfl, hb3⟩
  have hbw3 : Below w.heap.size w w3 := hbw2.trans (hb3.mono hbw2.size)
  have hR3 := hR2.below hb3 hR2.lt
  have HX := hide hP
  clear hP HC
  go_wp2_with fail
  refine (doorNum x _).mono ?_
  rintro e w4 ⟨rfl, hb4⟩
  have hbw4 : Below w.heap.size w w4 := hbw3.trans (hb4.mono hbw3.size)
  have hR4 := hR3.below hb4 hR3.lt
  have hz4 : w.heap.size < w4.heap.size := hR4.lt
  have q0 : w4.cell? ⟨w.heap.size, 0, none⟩ = some (.int .i64 0) := hR4.cell 0
  have q1 : w4.cell? ⟨w.heap.size, 1, none⟩ = some (.float .f64 0) := hR4.cell 1
  have q2 : w4.cell? ⟨w.heap.size, 2, none⟩ = some (.string ⟨#[]⟩) := hR4.cell 2
  have q3 : w4.cell? ⟨w.heap.size, 3, none⟩ = some (.slice none 0 0) := hR4.cell 3
  have fq : ∀ o, w4.frozen? ⟨w.heap.size, o, none⟩ = false := hR4.frozen
  clear hR1 hR2 hR3 hR4 hb1 hb2 hb3 hb4 hbw1 hbw2 hbw3
  go_wp2_with fail
  refine bodyPost_ret (v := .agg #[.int .i64 1, .float .f64 x, .string ⟨#[]⟩, .slice none 0 0]) ?_ rfl ⟨x, HX.out, rfl, ?_⟩
  · simp [results, Tryz.results21, go_sem, q0, q1, q2, q3]
  · (repeat' (first | (with_reducible exact Below.refl _ _) | (with_reducible assumption) | (with_reducible refine Below.setCell ?_ ?_ _) | (with_reducible refine Below.alloc ?_ ?_ _) | (with_reducible refine Below.drew ?_) | (with_reducible refine below_drewN ?_ _) | (with_reducible refine Below.trans ?_ (Below.mono (by assumption) ?_)) | (simp <;> omega) | omega))
set_option maxRecDepth 100000 in
set_option maxHeartbeats 2000000 in
theorem impl_MAX (xs : List Ar) (P : Nat → Prop) (hm : Mach 31 xs P) (hok : ∀ x ∈ xs, OkAr x) (A : Option Addr) (n c lo : Nat) (hn : xs.length = n) (hn2 : n ≤ 1000) (w : World) (hr : RdL w (In lo w.heap.size) 4 okI A xs) :
    Calls Tryz.prog 11 #[.slice A n c] w (RetV P w) := by
  have HL := hide (fun (W : World) (h : Below w.heap.size w W) => in_args xs hok A n c lo hn hn2 W (hr.keep okI_keeps fun g hg => ⟨⟨hg.1, Nat.lt_of_lt_of_le hg.2 h.size⟩, h.block g hg.2⟩))
  have HD := hide (fun (A : Option Addr) (c lo : Nat) (W : World) (hr : RdL W (In lo W.heap.size) 4 okI A xs) => door_MAX xs P hm hok A n c lo hn hn2 W hr)
  have HN := hide hn
  clear hr hok hm hn
  go_enter Tryz.func11, Tryz.ntmps11
  go_wp2_with fail
  refine (HL.out _ (by (repeat' (first | (with_reducible exact Below.refl _ _) | (with_reducible assumption) | (with_reducible refine Below.setCell ?_ ?_ _) | (with_reducible refine Below.alloc ?_ ?_ _) | (with_reducible refine Below.drew ?_) | (with_reducible refine below_drewN ?_ _) | (with_reducible refine Below.trans ?_ (Below.mono (by assumption) ?_)) | (simp <;> omega) | omega)))).mono ?_
  rintro e w1 ⟨A1, c1, rfl, hr1, hb1⟩
  rw [HN.out]
  have hbw1 : Below w.heap.size w w1 := (Below.alloc (Below.refl _ _) (Nat.le_refl _) _).trans (hb1.mono (by simp))
  have hR1 := (Blk.new w 27 #[.int .i64 0, .float .f64 0, .string ⟨#[]⟩, .slice none 0 0]).below hb1 (by simp)
  have HD1 := hide (HD.out A1 c1 _ w1 hr1)
  clear hr1
  go_wp2_with fail
  refine HD1.out.mono ?_
  rintro e w2 ⟨x, hP, rfl, hb2⟩
  have hbw2 : Below w.heap.size w w2 := hbw1.trans (hb2.mono hbw1.size)
  have hR2 := hR1.below hb2 hR1.lt
  have HX := hide hP
  clear hP
  go_wp2_with fail
  refine (out_any 1 x ⟨#[]⟩ _).mono ?_
  rintro e w4 ⟨rfl, hb4⟩
  have hbw4 : Below w.heap.size w w4 := hbw2.trans (hb4.mono hbw2.size)
  have hR4 := hR2.below hb4 hR2.lt
  have hz4 : w.heap.size < w4.heap.size := hR4.lt
  have q0 : w4.cell? ⟨w.heap.size, 0, none⟩ = some (.int .i64 0) := hR4.cell 0
  have q1 : w4.cell? ⟨w.heap.size, 1, none⟩ = some (.float .f64 0) := hR4.cell 1
  have q2 : w4.cell? ⟨w.heap.size, 2, none⟩ = some (.string ⟨#[]⟩) := hR4.cell 2
  have q3 : w4.cell? ⟨w.heap.size, 3, none⟩ = some (.slice none 0 0) := hR4.cell 3
  have fq : ∀ o, w4.frozen? ⟨w.heap.size, o, none⟩ = false := hR4.frozen
  clear hR1 hR2 hR4 hb1 hb2 hb4 hbw1 hbw2 HD HD1 HL
  go_wp2_with fail
  refine bodyPost_ret (v := .agg #[.int .i64 1, .float .f64 x, .string ⟨#[]⟩, .slice none 0 0]) ?_ rfl ⟨x, HX.out, rfl, ?_⟩
  · simp [results, Tryz.results11, go_sem, q0, q1, q2, q3]
  · (repeat' (first | (with_reducible exact Below.refl _ _) | (with_reducible assumption) | (with_reducible refine Below.setCell ?_ ?_ _) | (with_reducible refine Below.alloc ?_ ?_ _) | (with_reducible refine Below.drew ?_) | (with_reducible refine below_drewN ?_ _) | (with_reducible refine Below.trans ?_ (Below.mono (by assumption) ?_)) | (simp <;> omega) | omega))
set_option maxRecDepth 100000 in
set_option maxHeartbeats 2000000 in
theorem ask_MAX (xs : List Ar) (P : Nat → Prop) (hm : Mach 31 xs P) (hok : ∀ x ∈ xs, OkAr x) (A : Option Addr) (n c lo : Nat) (hn : xs.length = n) (hn2 : n ≤ 1000) (w : World) (hr : RdL w (In lo w.heap.size) 5 okS A xs) :
    Calls Tryz.prog 5 #[.func (.func 11) #[] #[], .slice A n c] w (RetV P w) := by
  have HL := hide (fun (W : World) (h : Below w.heap.size w W) => all_args xs hok A n c lo hn hn2 W (hr.keep okS_keeps fun g hg => ⟨⟨hg.1, Nat.lt_of_lt_of_le hg.2 h.size⟩, h.block g hg.2⟩))
  have HD := hide (fun (A : Option Addr) (c lo : Nat) (W : World) (hr : RdL W (In lo W.heap.size) 4 okI A xs) => impl_MAX xs P hm hok A n c lo hn hn2 W hr)
  have HN := hide hn
  clear hr hok hm hn
  go_enter Tryz.func5, Tryz.ntmps5
  go_wp2_with fail
  refine (HL.out _ (by (repeat' (first | (with_reducible exact Below.refl _ _) | (with_reducible assumption) | (with_reducible refine Below.setCell ?_ ?_ _) | (with_reducible refine Below.alloc ?_ ?_ _) | (with_reducible refine Below.drew ?_) | (with_reducible refine below_drewN ?_ _) | (with_reducible refine Below.trans ?_ (Below.mono (by assumption) ?_)) | (simp <;> omega) | omega)))).mono ?_
  rintro e w1 ⟨A1, c1, rfl, hr1, hb1⟩
  rw [HN.out]
  have hbw1 : Below w.heap.size w w1 := (Below.alloc (Below.refl _ _) (Nat.le_refl _) _).trans (hb1.mono (by simp))
  have hR1 := (Blk.new w 27 #[.int .i64 0, .float .f64 0, .string ⟨#[]⟩, .slice none 0 0]).below hb1 (by simp)
  have HD1 := hide (HD.out A1 c1 _ w1 hr1)
  clear hr1
  go_wp2_with fail
  refine HD1.out.mono ?_
  rintro e w4 ⟨x, hP, rfl, hb4⟩
  have hbw4 : Below w.heap.size w w4 := hbw1.trans (hb4.mono hbw1.size)
  have hR4 := hR1.below hb4 hR1.lt
  have HX := hide hP
  have hz4 : w.heap.size < w4.heap.size := hR4.lt
  have q0 : w4.cell? ⟨w.heap.size, 0, none⟩ = some (.int .i64 0) := hR4.cell 0
  have q1 : w4.cell? ⟨w.heap.size, 1, none⟩ = some (.float .f64 0) := hR4.cell 1
  have q2 : w4.cell? ⟨w.heap.size, 2, none⟩ = some (.string ⟨#[]⟩) := hR4.cell 2
  have q3 : w4.cell? ⟨w.heap.size, 3, none⟩ = some (.slice none 0 0) := hR4.cell 3
  have fq : ∀ o, w4.frozen? ⟨w.heap.size, o, none⟩ = false := hR4.frozen
  clear hR1 hR4 hb1 hb4 hbw1 HD HD1 HL hP
  go_wp2_with fail
  refine bodyPost_ret (v := .agg #[.int .i64 1, .float .f64 x, .string ⟨#[]⟩, .slice none 0 0]) ?_ rfl ⟨x, HX.out, rfl, ?_⟩
  · simp [results, Tryz.results5, go_sem, q0, q1, q2, q3]
  · (repeat' (first | (with_reducible exact Below.refl _ _) | (with_reducible assumption) | (with_reducible refine Below.setCell ?_ ?_ _) | (with_reducible refine Below.alloc ?_ ?_ _) | (with_reducible refine Below.drew ?_) | (with_reducible refine below_drewN ?_ _) | (with_reducible refine Below.trans ?_ (Below.mono (by assumption) ?_)) | (simp <;> omega) | omega))
set_option maxRecDepth 100000 in
set_option maxHeartbeats 2000000 in
theorem door_MIN (xs : List Ar) (P : Nat → Prop) (hm : Mach 32 xs P) (hok : ∀ x ∈ xs, OkAr x) (A : Option Addr) (n c lo : Nat) (hn : xs.length = n) (hn2 : n ≤ 1000) (w : World) (hr : RdL w (In lo w.heap.size) 4 okI A xs) :
    Calls Tryz.prog 22 #[.slice A n c] w (RetV P w) := by
  have HL := hide (fun (W : World) (h : Below w.heap.size w W) => innerList_args xs hok A n c lo hn hn2 W (hr.keep okI_keeps fun g hg => ⟨⟨hg.1, Nat.lt_of_lt_of_le hg.2 h.size⟩, h.block g hg.2⟩))
  have HM := hide hm
  clear hr hok hm
  go_enter Tryz.func22, Tryz.ntmps22
  go_wp2_with fail
  refine (doorFuncs_any _).mono ?_
  rintro e w1 ⟨⟨a, rfl⟩, hb1⟩
  have hbw1 : Below w.heap.size w w1 := (Below.alloc (Below.refl _ _) (Nat.le_refl _) _).trans (hb1.mono (by simp))
  have hR1 := (Blk.new w 42 #[.int .i64 0, .float .f64 0, .string ⟨#[]⟩, .slice none 0 0]).below hb1 (by simp)
  go_wp2_with fail
  refine (HL.out _ hbw1).mono ?_
  rintro e w2 ⟨q, vs, rfl, hch, hargs, hb2⟩
  have hbw2 : Below w.heap.size w w2 := hbw1.trans (hb2.mono hbw1.size)
  have hR2 := hR1.below hb2 hR1.lt
  have HC := hide (HM.out q vs (.pointer (some a)) w2 hch hargs)
  clear hch hargs
  go_wp2_with fail
  refine HC.out.mono ?_
  rintro e w3 ⟨x, hP, rfl, hb3⟩
  have hbw3 : Below w.heap.size w w3 := hbw2.trans (hb3.mono hbw2.size)
  have hR3 := hR2.below hb3 hR2.lt
  have HX := hide hP
  clear hP HC
  go_wp2_with fail
  refine (doorNum x _).mono ?_
  rintro e w4 ⟨rfl, hb4⟩
  have hbw4 : Below w.heap.size w w4 := hbw3.trans (hb4.mono hbw3.size)
  have hR4 := hR3.below hb4 hR3.lt
  have hz4 : w.heap.size < w4.heap.size := hR4.lt
  have q0 : w4.cell? ⟨w.heap.size, 0, none⟩ = some (.int .i64 0) := hR4.cell 0
  have q1 : w4.cell? ⟨w.heap.size, 1, none⟩ = some (.float .f64 0) := hR4.cell 1
  have q2 : w4.cell? ⟨w.heap.size, 2, none⟩ = some (.string ⟨#[]⟩) := hR4.cell 2
  have q3 : w4.cell? ⟨w.heap.size, 3, none⟩ = some (.slice none 0 0) := hR4.cell 3
  have fq : ∀ o, w4.frozen? ⟨w.heap.size, o, none⟩ = false := hR4.frozen
  clear hR1 hR2 hR3 hR4 hb1 hb2 hb3 hb4 hbw1 hbw2 hbw3
  go_wp2_with fail
  refine bodyPost_ret (v := .agg #[.int .i64 1, .float .f64 x, .string ⟨#[]⟩, .slice none 0 0]) ?_ rfl ⟨x, HX.out, rfl, ?_⟩
  · simp [results, Tryz.results22, go_sem, q0, q1, q2, q3]
  · (repeat' (first | (with_reducible exact Below.refl _ _) | (with_reducible assumption) | (with_reducible refine Below.setCell ?_ ?_ _) | (with_reducible refine Below.alloc ?_ ?_ _) | (with_reducible refine Below.drew ?_) | (with_reducible refine below_drewN ?_ _) | (with_reducible refine Below.trans ?_ (Below.mono (by assumption) ?_)) | (simp <;> omega) | omega))
set_option maxRecDepth 100000 in
set_option maxHeartbeats 2000000 in
theorem impl_MIN (xs : List Ar) (P : Nat → Prop) (hm : Mach 32 xs P) (hok : ∀ x ∈ xs, OkAr x) (A : Option Addr) (n c lo : Nat) (hn : xs.length = n) (hn2 : n ≤ 1000) (w : World) (hr : RdL w (In lo w.heap.size) 4 okI A xs) :
    Calls Tryz.prog 12 #[.slice A n c] w (RetV P w) := by
  have HL := hide (fun (W : World) (h : Below w.heap.size w W) => in_args xs hok A n c lo hn hn2 W (hr.keep okI_keeps fun g hg => ⟨⟨hg.1, Nat.lt_of_lt_of_le hg.2 h.size⟩, h.block g hg.2⟩))
  have HD := hide (fun (A : Option Addr) (c lo : Nat) (W : World) (hr : RdL W (In lo W.heap.size) 4 okI A xs) => door_MIN xs P hm hok A n c lo hn hn2 W hr)
  have HN := hide hn
  clear hr hok hm hn
  go_enter Tryz.func12, Tryz.ntmps12
  go_wp2_with fail
  refine (HL.out _ (by (repeat' (first | (with_reducible exact Below.refl _ _) | (with_reducible assumption) | (with_reducible refine Below.setCell ?_ ?_ _) | (with_reducible refine Below.alloc ?_ ?_ _) | (with_reducible refine Below.drew ?_) | (with_reducible refine below_drewN ?_ _) | (with_reducible refine Below.trans ?_ (Below.mono (by assumption) ?_)) | (simp <;> omega) | omega)))).mono ?_
  rintro e w1 ⟨A1, c1, rfl, hr1, hb1⟩
  rw [HN.out]
  have hbw1 : Below w.heap.size w w1 := (Below.alloc (Below.refl _ _) (Nat.le_refl _) _).trans (hb1.mono (by simp))
  have hR1 := (Blk.new w 27 #[.int .i64 0, .float .f64 0, .string ⟨#[]⟩, .slice none 0 0]).below hb1 (by simp)
  have HD1 := hide (HD.out A1 c1 _ w1 hr1)
  clear hr1
  go_wp2_with fail
  refine HD1.out.mono ?_
  rintro e w2 ⟨x, hP, rfl, hb2⟩
  have hbw2 : Below w.heap.size w w2 := hbw1.trans (hb2.mono hbw1.size)
  have hR2 := hR1.below hb2 hR1.lt
  have HX := hide hP
  clear hP
  go_wp2_with fail
  refine (out_any 1 x ⟨#[]⟩ _).mono ?_
  rintro e w4 ⟨rfl, hb4⟩
  have hbw4 : Below w.heap.size w w4 := hbw2.trans (hb4.mono hbw2.size)
  have hR4 := hR2.below hb4 hR2.lt
  have hz4 : w.heap.size < w4.heap.size := hR4.lt
  have q0 : w4.cell? ⟨w.heap.size, 0, none⟩ = some (.int .i64 0) := hR4.cell 0
  have q1 : w4.cell? ⟨w.heap.size, 1, none⟩ = some (.float .f64 0) := hR4.cell 1
  have q2 : w4.cell? ⟨w.heap.size, 2, none⟩ = some (.string ⟨#[]⟩) := hR4.cell 2
  have q3 : w4.cell? ⟨w.heap.size, 3, none⟩ = some (.slice none 0 0) := hR4.cell 3
  have fq : ∀ o, w4.frozen? ⟨w.heap.size, o, none⟩ = false := hR4.frozen
  clear hR1 hR2 hR4 hb1 hb2 hb4 hbw1 hbw2 HD HD1 HL
  go_wp2_with fail
  refine bodyPost_ret (v := .agg #[.int .i64 1, .float .f64 x, .string ⟨#[]⟩, .slice none 0 0]) ?_ rfl ⟨x, HX.out, rfl, ?_⟩
  · simp [results, Tryz.results12, go_sem, q0, q1, q2, q3]
  · (repeat' (first | (with_reducible exact Below.refl _ _) | (with_reducible assumption) | (with_reducible refine Below.setCell ?_ ?_ _) | (with_reducible refine Below.alloc ?_ ?_ _) | (with_reducible refine Below.drew ?_) | (with_reducible refine below_drewN ?_ _) | (with_reducible refine Below.trans ?_ (Below.mono (by assumption) ?_)) | (simp <;> omega) | omega))
set_option maxRecDepth 100000 in
set_option maxHeartbeats 2000000 in
theorem ask_MIN (xs : List Ar) (P : Nat → Prop) (hm : Mach 32 xs P) (hok : ∀ x ∈ xs, OkAr x) (A : Option Addr) (n c lo : Nat) (hn : xs.length = n) (hn2 : n ≤ 1000) (w : World) (hr : RdL w (In lo w.heap.size) 5 okS A xs) :
    Calls Tryz.prog 5 #[.func (.func 12) #[] #[], .slice A n c] w (RetV P w) := by
  have HL := hide (fun (W : World) (h : Below w.heap.size w W) => all_args xs hok A n c lo hn hn2 W (hr.keep okS_keeps fun g hg => ⟨⟨hg.1, Nat.lt_of_lt_of_le hg.2 h.size⟩, h.block g hg.2⟩))
  have HD := hide (fun (A : Option Addr) (c lo : Nat) (W : World) (hr : RdL W (In lo W.heap.size) 4 okI A xs) => impl_MIN xs P hm hok A n c lo hn hn2 W hr)
  have HN := hide hn
  clear hr hok hm hn
  go_enter Tryz.func5, Tryz.ntmps5
  go_wp2_with fail
  refine (HL.out _ (by (repeat' (first | (with_reducible exact Below.refl _ _) | (with_reducible assumption) | (with_reducible refine Below.setCell ?_ ?_ _) | (with_reducible refine Below.alloc ?_ ?_ _) | (with_reducible refine Below.drew ?_) | (with_reducible refine below_drewN ?_ _) | (with_reducible refine Below.trans ?_ (Below.mono (by assumption) ?_)) | (simp <;> omega) | omega)))).mono ?_
  rintro e w1 ⟨A1, c1, rfl, hr1, hb1⟩
  rw [HN.out]
  have hbw1 : Below w.heap.size w w1 := (Below.alloc (Below.refl _ _) (Nat.le_refl _) _).trans (hb1.mono (by simp))
  have hR1 := (Blk.new w 27 #[.int .i64 0, .float .f64 0, .string ⟨#[]⟩, .slice none 0 0]).below hb1 (by simp)
  have HD1 := hide (HD.out A1 c1 _ w1 hr1)
  clear hr1
  go_wp2_with fail
  refine HD1.out.mono ?_
  rintro e w4 ⟨x, hP, rfl, hb4⟩
  have hbw4 : Below w.heap.size w w4 := hbw1.trans (hb4.mono hbw1.size)
  have hR4 := hR1.below hb4 hR1.lt
  have HX := hide hP
  have hz4 : w.heap.size < w4.heap.size := hR4.lt
  have q0 : w4.cell? ⟨w.heap.size, 0, none⟩ = some (.int .i64 0) := hR4.cell 0
  have q1 : w4.cell? ⟨w.heap.size, 1, none⟩ = some (.float .f64 0) := hR4.cell 1
  have q2 : w4.cell? ⟨w.heap.size, 2, none⟩ = some (.string ⟨#[]⟩) := hR4.cell 2
  have q3 : w4.cell? ⟨w.heap.size, 3, none⟩ = some (.slice none 0 0) := hR4.cell 3
  have fq : ∀ o, w4.frozen? ⟨w.heap.size, o, none⟩ = false := hR4.frozen
  clear hR1 hR4 hb1 hb4 hbw1 HD HD1 HL hP
  go_wp2_with fail
  refine bodyPost_ret (v := .agg #[.int .i64 1, .float .f64 x, .string ⟨#[]⟩, .slice none 0 0]) ?_ rfl ⟨x, HX.out, rfl, ?_⟩
  · simp [results, Tryz.results5, go_sem, q0, q1, q2, q3]
  · (repeat' (first | (with_reducible exact Below.refl _ _) | (with_reducible assumption) | (with_reducible refine Below.setCell ?_ ?_ _) | (with_reducible refine Below.alloc ?_ ?_ _) | (with_reducible refine Below.drew ?_) | (with_reducible refine below_drewN ?_ _) | (with_reducible refine Below.trans ?_ (Below.mono (by assumption) ?_)) | (simp <;> omega) | omega))
end Go.Proofs.YtjcnnjknhemimaaGreatDoor
