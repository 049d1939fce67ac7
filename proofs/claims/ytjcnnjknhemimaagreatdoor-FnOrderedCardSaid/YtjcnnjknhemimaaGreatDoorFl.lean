/- Plain facts on the model's doubles: a double that is a number of the form n / 2^p, how two of them compare, and what their sum, their quotient by a power of two and the way back to an integer are. -/
import GoSem.Core.Float
namespace Go.Proofs.YtjcnnjknhemimaaGreatDoor.Fl
open Go Ieee

/-- The value of a datum's digits with its sign. -/
def sg (s : Bool) (m : Nat) : Int := if s then -(m : Int) else m

theorem signed_eq (s : Bool) (m up : Nat) : signed s m up = sg s m * 2 ^ up := by
  unfold signed sg
  cases s <;> simp [Nat.shiftLeft_eq, Int.neg_mul]

/-- A datum that is the number n / 2^p (c: a common denominator's power). -/
def Num (d : Datum) (n : Int) (p : Nat) : Prop :=
  ∃ (s : Bool) (m : Nat) (e : Int) (c : Nat), d = .number s m e ∧ m < 2 ^ 54 ∧ 0 ≤ e + c ∧ sg s m * 2 ^ (e + c).toNat * 2 ^ p = n * 2 ^ c

/-- The double x is the number n / 2^p. -/
def Is (x : Nat) (n : Int) (p : Nat) : Prop := Num (double.read x) n p

theorem compare_scale {X Y n k : Int} {P Q : Int} (hP : 0 < P) (hQ : 0 < Q) (h1 : X * P = n * Q) (h2 : Y * P = k * Q) : compare X Y = compare n k := by
  have lt_iff : X < Y ↔ n < k := by
    constructor
    · intro h
      have : X * P < Y * P := Int.mul_lt_mul_of_pos_right h hP
      rw [h1, h2] at this
      exact Int.lt_of_mul_lt_mul_right this (Int.le_of_lt hQ)
    · intro h
      have : n * Q < k * Q := Int.mul_lt_mul_of_pos_right h hQ
      rw [← h1, ← h2] at this
      exact Int.lt_of_mul_lt_mul_right this (Int.le_of_lt hP)
  have eq_iff : X = Y ↔ n = k := by
    constructor
    · intro h
      subst h
      have : n * Q = k * Q := h1.symm.trans h2
      exact Int.eq_of_mul_eq_mul_right (Int.ne_of_gt hQ) this
    · intro h
      subst h
      have : X * P = Y * P := h1.trans h2.symm
      exact Int.eq_of_mul_eq_mul_right (Int.ne_of_gt hP) this
  by_cases a : n < k
  · rw [Int.compare_eq_lt.2 a, Int.compare_eq_lt.2 (lt_iff.2 a)]
  · by_cases b : n = k
    · rw [Int.compare_eq_eq.2 b, Int.compare_eq_eq.2 (eq_iff.2 b)]
    · have g : k < n := by omega
      have : ¬ X < Y := fun h => a (lt_iff.1 h)
      have : ¬ X = Y := fun h => b (eq_iff.1 h)
      rw [Int.compare_eq_gt.2 g, Int.compare_eq_gt.2 (by omega)]

theorem pow_pos' (k : Nat) : (0 : Int) < 2 ^ k := Int.pow_pos (by decide)

/-- The equation of a number may be stated with any greater common denominator. -/
theorem raise {a n : Int} {e : Int} {c p : Nat} (d : Nat) (h0 : 0 ≤ e + c) (h : a * 2 ^ (e + c).toNat * 2 ^ p = n * 2 ^ c) :
    a * 2 ^ (e + (c + d : Nat)).toNat * 2 ^ p = n * 2 ^ (c + d) := by
  have e1 : (e + (c + d : Nat)).toNat = (e + c).toNat + d := by omega
  rw [e1, Int.pow_add, Int.pow_add, ← Int.mul_assoc, Int.mul_right_comm, h, Int.mul_assoc]

/-- Two numbers over one denominator compare as their numerators. -/
theorem order_num {d d' : Datum} {n k : Int} {p : Nat} (h : Num d n p) (h' : Num d' k p) : d.order d' = some (compare n k) := by
  obtain ⟨s, m, i, c, rfl, _, h0, h1⟩ := h
  obtain ⟨t, m', j, c', rfl, _, h0', h1'⟩ := h'
  simp only [Datum.order, signed_eq]
  congr 1
  have r := raise c' h0 h1
  have r' := raise c h0' h1'
  rw [Nat.add_comm c' c] at r'
  have hb : 0 ≤ min i j + (c + c' : Nat) := by omega
  refine compare_scale (P := 2 ^ ((min i j + (c + c' : Nat)).toNat + p)) (Q := 2 ^ (c + c')) (pow_pos' _) (pow_pos' _) ?_ ?_
  · rw [← r, Int.pow_add, ← Int.mul_assoc, Int.mul_assoc (sg s m), ← Int.pow_add]
    congr 3
    omega
  · rw [← r', Int.pow_add, ← Int.mul_assoc, Int.mul_assoc (sg t m'), ← Int.pow_add]
    congr 3
    omega

theorem order_is {x y : Nat} {n k : Int} {p : Nat} (h : Is x n p) (h' : Is y k p) : double.order x y = some (compare n k) := order_num h h'

/-! ### The constants of the format -/
theorem signWeight_eq : double.signWeight = 9223372036854775808 := by decide
theorem binade_eq : double.binade = 4503599627370496 := by decide
theorem infRung_eq : double.infRung = 9218868437227405312 := by decide
theorem leastPlace_eq : double.leastPlace = -1074 := by decide

theorem read_word (s : Bool) (r : Nat) (h1 : 4503599627370496 ≤ r) (h2 : r < 9218868437227405312) :
    double.read (double.word s r) = .number s (4503599627370496 + r % 4503599627370496) (-1074 + (r / 4503599627370496 - 1 : Nat)) := by
  simp only [Format.read, Format.word, signWeight_eq, binade_eq, infRung_eq, leastPlace_eq]
  cases s
  · simp only [Bool.false_eq_true, if_false]
    have e1 : (r / 9223372036854775808 % 2 == 1) = false := by simp; omega
    have e2 : r % 9223372036854775808 = r := by omega
    rw [e1, e2, if_neg (by omega), if_pos h2]
  · simp only [if_true]
    have e1 : ((9223372036854775808 + r) / 9223372036854775808 % 2 == 1) = true := by simp; omega
    have e2 : (9223372036854775808 + r) % 9223372036854775808 = r := by omega
    rw [e1, e2, if_neg (by omega), if_pos h2]

theorem read_zero (s : Bool) : double.read (double.word s 0) = .number s 0 (-1074) := by
  cases s <;> decide

/-- A number of at most 53 digits is written exactly. -/
theorem nearest_exact (s : Bool) (mag k t : Nat) (place : Int) (hk0 : 0 < k) (hk : k < 9007199254740992) (hmag : mag = k * 2 ^ t)
    (lo : -1022 ≤ place + t) (hi : place + t ≤ 900) :
    ∃ K j : Nat, double.read (double.nearest s mag place) = .number s K (place + t - j) ∧ K = k * 2 ^ j ∧ K < 9007199254740992 := by
  have hp : 0 < 2 ^ t := Nat.two_pow_pos t
  have hm0 : mag ≠ 0 := by rw [hmag]; exact Nat.ne_of_gt (Nat.mul_pos hk0 hp)
  have l1 : 2 ^ k.log2 ≤ k := Nat.log2_self_le (by omega)
  have l2 : k < 2 ^ (k.log2 + 1) := Nat.lt_log2_self
  have l3 : k.log2 ≤ 52 := by
    have : k.log2 < 53 := (Nat.log2_lt (by omega)).2 (by simpa using hk)
    omega
  have l4 : mag.log2 = k.log2 + t := by
    rw [Nat.log2_eq_iff hm0, hmag]
    refine ⟨by rw [Nat.pow_add]; exact Nat.mul_le_mul_right _ l1, ?_⟩
    rw [show k.log2 + t + 1 = (k.log2 + 1) + t from by omega, Nat.pow_add]
    exact Nat.mul_lt_mul_of_pos_right l2 hp
  obtain ⟨j, hj⟩ : ∃ j, j = 52 - k.log2 := ⟨_, rfl⟩
  have hkept1 : 4503599627370496 ≤ k * 2 ^ j := by
    have := Nat.mul_le_mul_right (2 ^ j) l1
    rw [← Nat.pow_add, show k.log2 + j = 52 from by omega] at this
    simpa using this
  have hkept2 : k * 2 ^ j < 9007199254740992 := by
    have := Nat.mul_lt_mul_of_pos_right l2 (Nat.two_pow_pos j)
    rw [← Nat.pow_add, show k.log2 + 1 + j = 53 from by omega] at this
    simpa using this
  have hlast : max (place + (mag.log2 : Int) - (52 : Nat)) (-1074) = place + t - j := by rw [l4]; omega
  have hcut : Toward.even.cut s (mag <<< (place - (place + t - j)).toNat) (place + t - j - place).toNat = k * 2 ^ j := by
    by_cases htj : t ≤ j
    · have e1 : (place - (place + t - j)).toNat = j - t := by omega
      have e2 : (place + t - j - place).toNat = 0 := by omega
      rw [e1, e2, Nat.shiftLeft_eq, hmag, Nat.mul_assoc, ← Nat.pow_add, show t + (j - t) = j from by omega]
      generalize k * 2 ^ j = K
      simp [Toward.cut, Nat.mod_one]
    · have e1 : (place - (place + t - j)).toNat = 0 := by omega
      have e2 : (place + t - j - place).toNat = t - j := by omega
      rw [e1, e2, Nat.shiftLeft_zero]
      have hmin : min (t - j) (mag.log2 + 2) = t - j := by omega
      have hd : mag = (k * 2 ^ j) * 2 ^ (t - j) := by rw [hmag, Nat.mul_assoc, ← Nat.pow_add, show j + (t - j) = t from by omega]
      have hq : 0 < 2 ^ (t - j) := Nat.two_pow_pos _
      unfold Toward.cut
      simp only [hmin, Nat.one_shiftLeft]
      have hdiv : mag / 2 ^ (t - j) = k * 2 ^ j := by rw [hd]; exact Nat.mul_div_cancel _ hq
      have hmod : mag % 2 ^ (t - j) = 0 := by rw [hd]; exact Nat.mul_mod_left _ _
      have hne : ((2 ^ (t - j) == 0) : Bool) = false := by simp
      rw [hdiv, hmod]
      simp
  refine ⟨k * 2 ^ j, j, ?_, rfl, hkept2⟩
  have hnear : double.nearest s mag place = double.word s ((place + t - j + 1074).toNat * 4503599627370496 + k * 2 ^ j) := by
    unfold Format.nearest
    rw [if_neg hm0]
    have hf : double.fractionBits = 52 := rfl
    have e1 : place + (t : Int) - j - -1074 = place + t - j + 1074 := by omega
    simp only [hf, leastPlace_eq, binade_eq, infRung_eq, hlast, hcut, e1]
    rw [Nat.min_eq_left]
    omega
  rw [hnear, read_word s _ (by omega) (by omega)]
  have e2 : 4503599627370496 + ((place + t - j + 1074).toNat * 4503599627370496 + k * 2 ^ j) % 4503599627370496 = k * 2 ^ j := by omega
  have e3 : (-1074 : Int) + ((((place + t - j + 1074).toNat * 4503599627370496 + k * 2 ^ j) / 4503599627370496 - 1 : Nat) : Int) = place + t - j := by omega
  rw [e2, e3]

/-- An integer number over a power of two that has at most 53 digits is written exactly, however its digits were found. -/
theorem is_nearest (N : Int) (p : Nat) (T : Int) (place : Int) (c : Nat) (neg : Bool) (hp : p ≤ 100) (hN : N.natAbs < 9007199254740992) (hc : 0 ≤ place + c)
    (h : T * 2 ^ (place + c).toNat * 2 ^ p = N * 2 ^ c) (hneg : T ≠ 0 → neg = decide (T < 0)) : Is (double.nearest neg T.natAbs place) N p := by
  by_cases hT : T = 0
  · subst hT
    have hN0 : N = 0 := by
      rw [Int.zero_mul, Int.zero_mul] at h
      rcases Int.mul_eq_zero.1 h.symm with h | h
      · exact h
      · exact absurd h (Int.ne_of_gt (pow_pos' c))
    subst hN0
    have : double.nearest neg (Int.natAbs 0) place = double.word neg 0 := by simp [Format.nearest]
    rw [this]
    exact ⟨neg, 0, -1074, 1074, read_zero neg, by decide, by decide, by rw [Int.zero_mul]; cases neg <;> rw [sg] <;> simp⟩
  · obtain ⟨u, hu⟩ : ∃ u, u = (place + c).toNat + p := ⟨_, rfl⟩
    have hTu : T * 2 ^ u = N * 2 ^ c := by rw [hu, Int.pow_add, ← Int.mul_assoc]; exact h
    obtain ⟨k, t, hk0, hk, hTk, lo, hi⟩ : ∃ k t : Nat, 0 < k ∧ k < 9007199254740992 ∧ T.natAbs = k * 2 ^ t ∧ -1022 ≤ place + t ∧ place + t ≤ 900 := by
      by_cases huc : u ≤ c
      · have e : T = N * 2 ^ (c - u) := by
          have : T * 2 ^ u = N * 2 ^ (c - u) * 2 ^ u := by rw [hTu, Int.mul_assoc, ← Int.pow_add, show c - u + u = c from by omega]
          exact Int.eq_of_mul_eq_mul_right (Int.ne_of_gt (pow_pos' u)) this
        refine ⟨N.natAbs, c - u, ?_, hN, ?_, by omega, by omega⟩
        · rcases Nat.eq_zero_or_pos N.natAbs with h0 | h0
          · exact absurd (by rw [e, Int.natAbs_eq_zero.1 h0, Int.zero_mul]) hT
          · exact h0
        · rw [e, Int.natAbs_mul, Int.natAbs_pow]; rfl
      · have e : N = T * 2 ^ (u - c) := by
          have : N * 2 ^ c = T * 2 ^ (u - c) * 2 ^ c := by rw [← hTu, Int.mul_assoc, ← Int.pow_add, show u - c + c = u from by omega]
          exact Int.eq_of_mul_eq_mul_right (Int.ne_of_gt (pow_pos' c)) this
        have e' : N.natAbs = T.natAbs * 2 ^ (u - c) := by rw [e, Int.natAbs_mul, Int.natAbs_pow]; rfl
        have hT1 : 1 ≤ T.natAbs := Nat.pos_of_ne_zero (by simpa using hT)
        have h1 : T.natAbs ≤ N.natAbs := by rw [e']; exact Nat.le_mul_of_pos_right _ (Nat.two_pow_pos _)
        have h2 : 2 ^ (u - c) < 2 ^ 53 := by
          have : 1 * 2 ^ (u - c) ≤ N.natAbs := by rw [e']; exact Nat.mul_le_mul_right _ hT1
          rw [Nat.one_mul] at this
          exact Nat.lt_of_le_of_lt this hN
        have h3 : u - c < 53 := (Nat.pow_lt_pow_iff_right (by decide)).1 h2
        exact ⟨T.natAbs, 0, hT1, by omega, by simp, by omega, by omega⟩
    obtain ⟨K, j, hr, hK, hKlt⟩ := nearest_exact neg T.natAbs k t place hk0 hk hTk lo hi
    have hng := hneg hT
    have hsT : sg neg k * 2 ^ t = T := by
      have e1 : ((k * 2 ^ t : Nat) : Int) = (k : Int) * 2 ^ t := by simp
      rw [hng]
      unfold sg
      by_cases hlt : T < 0
      · simp only [hlt, decide_true, if_true, Int.neg_mul]
        rw [← e1, ← hTk]; omega
      · simp only [hlt, decide_false, Bool.false_eq_true, if_false]
        rw [← e1, ← hTk]; omega
    refine ⟨neg, K, place + t - j, c + j, hr, by omega, by omega, ?_⟩
    have hsK : sg neg K = sg neg k * 2 ^ j := by rw [hK]; unfold sg; cases neg <;> simp [Int.neg_mul]
    have e2 : (place + t - j + (c + j : Nat)).toNat = t + (place + c).toNat := by omega
    rw [e2, hsK, Int.pow_add 2 t, Int.pow_add 2 c]
    calc sg neg k * 2 ^ j * (2 ^ t * 2 ^ (place + c).toNat) * 2 ^ p
        = (sg neg k * 2 ^ t) * 2 ^ (place + c).toNat * 2 ^ p * 2 ^ j := by ac_rfl
      _ = N * 2 ^ c * 2 ^ j := by rw [hsT, h]
      _ = N * (2 ^ c * 2 ^ j) := by rw [Int.mul_assoc]

/-- The double of an integer of at most 53 digits is that integer. -/
theorem is_int (n : Int) (h : n.natAbs < 9007199254740992) : Is (FloatKind.f64.nearest n) n 0 := by
  have := is_nearest n 0 n 0 0 (decide (n < 0)) (by decide) h (by decide) (by simp) (fun _ => rfl)
  exact this

/-- A sum of two numbers over one denominator. -/
theorem is_add {x y : Nat} {n k : Int} {p : Nat} (hp : p ≤ 100) (hx : Is x n p) (hy : Is y k p) (h : (n + k).natAbs < 9007199254740992) :
    ∃ r, double.add x y = some r ∧ Is r (n + k) p := by
  obtain ⟨s, m, i, c, e1, _, h0, h1⟩ := hx
  obtain ⟨t, m', j, c', e2, _, h0', h1'⟩ := hy
  have r := raise c' h0 h1
  have r' := raise c h0' h1'
  rw [Nat.add_comm c' c] at r'
  refine ⟨_, by simp only [Format.add, e1, e2, Datum.sum, Option.map_some]; rfl, ?_⟩
  simp only [Format.write, signed_eq]
  have hb : 0 ≤ min i j + (c + c' : Nat) := by omega
  refine is_nearest (n + k) p _ _ (c + c') _ hp h hb ?_ ?_
  · rw [Int.add_mul, Int.add_mul, Int.add_mul, ← r, ← r']
    congr 1
    · rw [Int.mul_assoc (sg s m), ← Int.pow_add]
      congr 3
      omega
    · rw [Int.mul_assoc (sg t m'), ← Int.pow_add]
      congr 3
      omega
  · intro hT
    rw [if_neg hT]

/-- The double of a power of two. -/
theorem read_pow (p : Nat) (hp : p ≤ 50) : ∃ q : Nat, double.read (FloatKind.f64.nearest ((2 ^ p : Nat) : Int)) = .number false (2 ^ q) ((p : Int) - q) := by
  obtain ⟨K, j, hr, hK, _⟩ := nearest_exact false (2 ^ p) 1 p 0 (by decide) (by decide) (by simp) (by omega) (by omega)
  refine ⟨j, ?_⟩
  have e : FloatKind.f64.nearest ((2 ^ p : Nat) : Int) = double.nearest false (2 ^ p) 0 := by
    show double.nearest (decide (((2 ^ p : Nat) : Int) < 0)) (((2 ^ p : Nat) : Int)).natAbs 0 = _
    have : decide (((2 ^ p : Nat) : Int) < 0) = false := decide_eq_false (by have := Nat.two_pow_pos p; omega)
    rw [this]; rfl
  have e3 : (0 : Int) + p - j = p - j := by omega
  rw [e, hr, hK, Nat.one_mul, e3]

/-- An integer divided by a power of two. -/
theorem is_div {x : Nat} {n : Int} {p : Nat} (hp : p ≤ 50) (hx : Is x n 0) (h : n.natAbs < 9007199254740992) :
    ∃ r, double.div x (FloatKind.f64.nearest ((2 ^ p : Nat) : Int)) = some r ∧ Is r n p := by
  obtain ⟨s, m, i, c, e1, hm, h0, h1⟩ := hx
  obtain ⟨q, e2⟩ := read_pow p hp
  have hml : m.log2 < 54 := by
    by_cases hm0 : m = 0
    · subst hm0; decide
    · exact (Nat.log2_lt hm0).2 hm
  have hq : 0 < 2 ^ q := Nat.two_pow_pos q
  have hlq : (2 ^ q).log2 = q := Nat.log2_two_pow
  obtain ⟨more, hmore⟩ : ∃ more, more = double.fractionBits + 2 + (2 ^ q).log2 - m.log2 := ⟨_, rfl⟩
  have hmq : q ≤ more := by rw [hmore, hlq]; show q ≤ 52 + 2 + q - m.log2; omega
  have hd : (m <<< more) / 2 ^ q = m * 2 ^ (more - q) := by
    rw [Nat.shiftLeft_eq, show more = (more - q) + q from by omega, Nat.pow_add, ← Nat.mul_assoc, Nat.mul_div_cancel _ hq]
    congr 2; omega
  have hr : (m <<< more) % 2 ^ q = 0 := by
    rw [Nat.shiftLeft_eq, show more = (more - q) + q from by omega, Nat.pow_add, ← Nat.mul_assoc]; exact Nat.mul_mod_left _ _
  refine ⟨double.nearest s (2 * (m * 2 ^ (more - q))) (i - ((p : Int) - q) - more - 1), ?_, ?_⟩
  · simp only [Format.div, e1, e2, Datum.quotient, Nat.ne_of_gt hq, if_false, ← hmore, hd, hr, Option.map_some, Format.write]
    simp
  · have hT : (2 * (m * 2 ^ (more - q))) = (sg s (2 * (m * 2 ^ (more - q)))).natAbs := by
      unfold sg
      cases s
      · exact (Int.natAbs_natCast _).symm
      · exact ((Int.natAbs_neg _).trans (Int.natAbs_natCast _)).symm
    rw [hT]
    have r := raise (more + 1 + p + q) h0 h1
    simp only [Int.pow_zero, Int.mul_one] at r
    have hsg : sg s (2 * (m * 2 ^ (more - q))) = sg s m * 2 ^ (more - q + 1) := by
      unfold sg
      rw [Int.pow_succ]
      cases s <;> simp [Int.neg_mul] <;> ac_rfl
    refine is_nearest n p _ _ (c + (more + 1 + p + q)) s (by omega) h (by omega) ?_ ?_
    · rw [← r, hsg, Int.mul_assoc, Int.mul_assoc, ← Int.pow_add, ← Int.pow_add]
      congr 2
      omega
    · intro hne
      unfold sg
      cases s
      · simp only [Bool.false_eq_true, if_false]
        exact (decide_eq_false (by omega)).symm
      · simp only [if_true]
        refine (decide_eq_true ?_).symm
        have : sg true (2 * (m * 2 ^ (more - q))) ≠ 0 := hne
        unfold sg at this
        simp only [if_true] at this
        omega

/-- A double that is an integer, made an integer. -/
theorem toInt_is {x : Nat} {n : Int} (hx : Is x n 0) : (double.read x).toInt .zero = some n := by
  obtain ⟨s, m, i, c, e1, hm, h0, h1⟩ := hx
  simp only [Int.pow_zero, Int.mul_one] at h1
  rw [e1]
  simp only [Datum.toInt, Datum.integral, signed_eq, Int.pow_zero, Int.mul_one]
  congr 1
  have key : Toward.zero.cut s (m <<< i.toNat) (-i).toNat = n.natAbs ∧ sg s n.natAbs = n := by
    by_cases hi : 0 ≤ i
    · have e : (i + c).toNat = i.toNat + c := by omega
      rw [e, Int.pow_add, ← Int.mul_assoc] at h1
      have h2 := Int.eq_of_mul_eq_mul_right (Int.ne_of_gt (pow_pos' c)) h1
      have h3 : n.natAbs = m * 2 ^ i.toNat := by
        rw [← h2, Int.natAbs_mul, Int.natAbs_pow]; unfold sg; cases s <;> simp
      constructor
      · have e0 : (-i).toNat = 0 := by omega
        rw [e0, Nat.shiftLeft_eq, h3]
        simp [Toward.cut]
      · rw [h3, ← h2]; unfold sg; cases s <;> simp [Int.neg_mul]
    · obtain ⟨d, hd⟩ : ∃ d : Nat, i = -(d : Int) := ⟨(-i).toNat, by omega⟩
      subst hd
      have hdc : d ≤ c := by omega
      have e : (-(d : Int) + c).toNat = c - d := by omega
      rw [e, show c = d + (c - d) from by omega, Int.pow_add 2 d, ← Int.mul_assoc] at h1
      have e5 : d + (c - d) - d = c - d := by omega
      rw [e5] at h1
      have h2 := Int.eq_of_mul_eq_mul_right (Int.ne_of_gt (pow_pos' (c - d))) h1
      have h3 : m = n.natAbs * 2 ^ d := by
        have := congrArg Int.natAbs h2
        rw [Int.natAbs_mul, Int.natAbs_pow] at this
        rw [show n.natAbs * 2 ^ d = n.natAbs * (Int.natAbs 2) ^ d from rfl, ← this]
        unfold sg; cases s <;> simp
      have hp : 0 < 2 ^ d := Nat.two_pow_pos d
      constructor
      · have e0 : (-(-(d : Int))).toNat = d := by omega
        have e6 : (-(d : Int)).toNat = 0 := by omega
        rw [e0, e6, Nat.shiftLeft_zero]
        unfold Toward.cut
        by_cases hm0 : m = 0
        · have : n.natAbs = 0 := by
            rcases Nat.mul_eq_zero.1 (h3.symm.trans hm0) with h | h
            · exact h
            · omega
          rw [hm0, this]; simp
        · have hle : d ≤ m.log2 := by
            have : 2 ^ d ≤ m := by
              rw [h3]; refine Nat.le_mul_of_pos_left _ ?_
              rcases Nat.eq_zero_or_pos n.natAbs with h | h
              · exact absurd (by rw [h3, h, Nat.zero_mul]) hm0
              · exact h
            exact (Nat.le_log2 hm0).2 this
          have hmin : min d (m.log2 + 2) = d := by omega
          simp only [hmin, Nat.one_shiftLeft]
          have : m / 2 ^ d = n.natAbs := by rw [h3]; exact Nat.mul_div_cancel _ hp
          rw [this]; rfl
      · have h4 : sg s n.natAbs * 2 ^ d = n * 2 ^ d := by
          rw [← h2, h3]; unfold sg; cases s <;> simp [Int.neg_mul]
        exact Int.eq_of_mul_eq_mul_right (Int.ne_of_gt (pow_pos' d)) h4
  rw [key.1]; exact key.2

end Go.Proofs.YtjcnnjknhemimaaGreatDoor.Fl
