/-
  Plain mathematics (seat b6601171a): a float64's word as a signed rung ('key'); the model's order, product, sum and difference in those words.
-/
import Derived.Test.Qxb6601171aRound
namespace Go.Proofs.Qxb6601171a
open Ieee

def sv (s : Bool) (N : Nat) : Int := if s then -(N : Int) else N
def sgn (x : Nat) : Bool := x / 2 ^ 63 % 2 == 1
def rung (x : Nat) : Nat := x % 2 ^ 63
def key (x : Nat) : Int := sv (sgn x) (rung x)
/-- The rung of infinity. -/
def INF : Nat := 2047 * 2 ^ 52
theorem INF_eq : INF = 9218868437227405312 := rfl

theorem sv_true (N : Nat) : sv true N = -(N : Int) := rfl
theorem sv_false (N : Nat) : sv false N = (N : Int) := rfl

theorem read_fin (x : Nat) (h : rung x < INF) : ∃ m e : Nat, double.read x = .number (sgn x) m (-1074 + (e : Int)) ∧ m * 2 ^ e = Mg (rung x) := by
  have h0 : double.signWeight = 2 ^ 63 := rfl
  have h1 : double.binade = 2 ^ 52 := rfl
  have h2 : double.infRung = INF := rfl
  have h3 : double.leastPlace = -1074 := rfl
  unfold Format.read
  rw [h0, h1, h2, h3]
  show ∃ m e : Nat, (if rung x < 2 ^ 52 then Datum.number (sgn x) (rung x) (-1074) else if rung x < INF then Datum.number (sgn x) (2 ^ 52 + rung x % 2 ^ 52) (-1074 + ((rung x / 2 ^ 52 - 1 : Nat) : Int)) else if rung x = INF then Datum.infinity (sgn x) else Datum.nan (sgn x) (rung x - INF)) = .number (sgn x) m (-1074 + (e : Int)) ∧ m * 2 ^ e = Mg (rung x)
  unfold Mg
  by_cases hb : rung x < 2 ^ 52
  · rw [if_pos hb, if_pos hb]
    exact ⟨rung x, 0, by simp, by simp⟩
  · rw [if_neg hb, if_neg hb, if_pos h]
    exact ⟨_, _, rfl, rfl⟩
theorem read_inf (x : Nat) (h : rung x = INF) : double.read x = .infinity (sgn x) := by
  unfold Format.read
  show (if rung x < 2 ^ 52 then Datum.number (sgn x) (rung x) (-1074) else if rung x < INF then Datum.number (sgn x) (2 ^ 52 + rung x % 2 ^ 52) (-1074 + ((rung x / 2 ^ 52 - 1 : Nat) : Int)) else if rung x = INF then Datum.infinity (sgn x) else Datum.nan (sgn x) (rung x - INF)) = _
  rw [if_neg (by rw [h, INF_eq]; omega), if_neg (by omega), if_pos h]
theorem read_nan (x : Nat) (h : INF < rung x) : double.read x = .nan (sgn x) (rung x - INF) := by
  unfold Format.read
  show (if rung x < 2 ^ 52 then Datum.number (sgn x) (rung x) (-1074) else if rung x < INF then Datum.number (sgn x) (2 ^ 52 + rung x % 2 ^ 52) (-1074 + ((rung x / 2 ^ 52 - 1 : Nat) : Int)) else if rung x = INF then Datum.infinity (sgn x) else Datum.nan (sgn x) (rung x - INF)) = _
  rw [INF_eq] at h
  rw [if_neg (by omega), if_neg (by rw [INF_eq]; omega), if_neg (by rw [INF_eq]; omega)]

theorem signed_eq (s : Bool) (m u : Nat) : signed s m u = sv s (m * 2 ^ u) := by
  unfold signed sv
  rw [Nat.shiftLeft_eq]
theorem sv_mul (s : Bool) (N c : Nat) : sv s (N * c) = sv s N * (c : Int) := by
  cases s
  · simp [sv]
  · simp [sv, Int.neg_mul]

theorem cmp_congr (a b c d : Int) (h1 : a < b ↔ c < d) (h2 : a = b ↔ c = d) : compare a b = compare c d := by
  show compareOfLessAndEq a b = compareOfLessAndEq c d
  unfold compareOfLessAndEq
  simp only [h1, h2]

theorem cmp_scale (a b : Int) (c : Nat) (hc : 0 < c) : compare (a * (c : Int)) (b * (c : Int)) = compare a b := by
  have hc' : (0 : Int) < c := by omega
  refine cmp_congr _ _ _ _ ?_ ?_
  · exact ⟨fun h => Int.lt_of_mul_lt_mul_right h (Int.le_of_lt hc'), fun h => Int.mul_lt_mul_of_pos_right h hc'⟩
  · exact ⟨fun h => Int.eq_of_mul_eq_mul_right (by omega) h, fun h => by rw [h]⟩

theorem cmp_Mg (s t : Bool) (a b : Nat) (ha : a < INF) (hb : b < INF) : compare (sv s (Mg a)) (sv t (Mg b)) = compare (sv s a) (sv t b) := by
  have h1 := Mg_le a b ha hb
  have h2 := Mg_le b a hb ha
  have h3 : Mg 0 = 0 := rfl
  have h4 := Mg_le a 0 ha (by omega)
  have h5 := Mg_le b 0 hb (by omega)
  rw [h3] at h4 h5
  refine cmp_congr _ _ _ _ ?_ ?_ <;> cases s <;> cases t <;> simp only [sv_true, sv_false] <;> omega

theorem order_fin (x y : Nat) (hx : rung x < INF) (hy : rung y < INF) : double.order x y = some (compare (key x) (key y)) := by
  obtain ⟨m, e, hr, hm⟩ := read_fin x hx
  obtain ⟨n, e', hr', hn⟩ := read_fin y hy
  unfold Format.order
  rw [hr, hr']
  show some (compare (signed (sgn x) m (-1074 + (e : Int) - min (-1074 + (e : Int)) (-1074 + (e' : Int))).toNat) (signed (sgn y) n (-1074 + (e' : Int) - min (-1074 + (e : Int)) (-1074 + (e' : Int))).toNat)) = _
  have e1 : (-1074 + (e : Int) - min (-1074 + (e : Int)) (-1074 + (e' : Int))).toNat = e - min e e' := by omega
  have e2 : (-1074 + (e' : Int) - min (-1074 + (e : Int)) (-1074 + (e' : Int))).toNat = e' - min e e' := by omega
  rw [e1, e2, signed_eq, signed_eq]
  have hp : 0 < 2 ^ min e e' := Nat.two_pow_pos _
  rw [← cmp_scale _ _ _ hp, ← sv_mul, ← sv_mul, Nat.mul_assoc, Nat.mul_assoc, ← Nat.pow_add, ← Nat.pow_add, Nat.sub_add_cancel (Nat.min_le_left ..), Nat.sub_add_cancel (Nat.min_le_right ..), hm, hn, cmp_Mg _ _ _ _ hx hy]
  rfl

theorem cmp_lt {a b : Int} (h : a < b) : compare a b = .lt := by show compareOfLessAndEq a b = _; simp [compareOfLessAndEq, h]
theorem cmp_gt {a b : Int} (h : b < a) : compare a b = .gt := by
  show compareOfLessAndEq a b = _
  simp [compareOfLessAndEq, show ¬ a < b by omega, show ¬ a = b by omega]

/-- Of two words that are no NaN the order is their keys'. -/
theorem order_key (x y : Nat) (hx : rung x ≤ INF) (hy : rung y ≤ INF) : double.order x y = some (compare (key x) (key y)) := by
  by_cases h1 : rung x < INF
  · by_cases h2 : rung y < INF
    · exact order_fin x y h1 h2
    · obtain ⟨m, e, hr, _⟩ := read_fin x h1
      have hi : rung y = INF := by omega
      unfold Format.order key
      rw [hr, read_inf y hi, hi]
      cases sgn y
      · rw [cmp_lt (by cases sgn x <;> simp only [sv_true, sv_false] <;> omega)]; rfl
      · rw [cmp_gt (by cases sgn x <;> simp only [sv_true, sv_false] <;> omega)]; rfl
  · have hi : rung x = INF := by omega
    by_cases h2 : rung y < INF
    · obtain ⟨m, e, hr, _⟩ := read_fin y h2
      unfold Format.order key
      rw [hr, read_inf x hi, hi]
      cases sgn x
      · rw [cmp_gt (by cases sgn y <;> simp only [sv_true, sv_false] <;> omega)]; rfl
      · rw [cmp_lt (by cases sgn y <;> simp only [sv_true, sv_false] <;> omega)]; rfl
    · have hj : rung y = INF := by omega
      unfold Format.order key
      rw [read_inf x hi, read_inf y hj, hi, hj]
      cases sgn x <;> cases sgn y <;> rfl

/-- A NaN has no order with anything. -/
theorem order_nan_left (x y : Nat) (hx : INF < rung x) : double.order x y = none := by
  unfold Format.order; rw [read_nan x hx]; rfl
theorem order_nan_right (x y : Nat) (hy : INF < rung y) : double.order x y = none := by
  unfold Format.order; rw [read_nan y hy]; cases double.read x <;> rfl

theorem log2_shift (m t : Nat) (hm : m ≠ 0) : (m * 2 ^ t).log2 = m.log2 + t := by
  have hp : 0 < 2 ^ t := Nat.two_pow_pos _
  rw [Nat.log2_eq_iff (Nat.mul_ne_zero hm (by omega))]
  have h1 := Nat.log2_self_le hm
  have h2 : m < 2 ^ (m.log2 + 1) := Nat.lt_log2_self
  constructor
  · rw [Nat.pow_add]; exact Nat.mul_le_mul_right _ h1
  · rw [show m.log2 + t + 1 = m.log2 + 1 + t by omega, Nat.pow_add 2 (m.log2 + 1)]; exact (Nat.mul_lt_mul_right hp).2 h2

/-- The model's rounding is 'G'. -/
theorem nearest_eq (K : Nat) (hK : K = 1074) (neg : Bool) (m t : Nat) : double.nearest neg m (-2148 + (t : Int)) = double.word neg (G K (m * 2 ^ t)) := by
  unfold Format.nearest G
  by_cases hm : m = 0
  · rw [if_pos hm, if_pos (by rw [hm, Nat.zero_mul])]
  have hp : 0 < 2 ^ t := Nat.two_pow_pos _
  rw [if_neg hm, if_neg (Nat.mul_ne_zero hm (by omega)), log2_shift m t hm]
  obtain ⟨E, hE⟩ : ∃ E, E = m.log2 + t - (K + 52) := ⟨_, rfl⟩
  rw [← hE]
  have h3 : double.leastPlace = -1074 := rfl
  have h4 : (double.fractionBits : Int) = 52 := rfl
  have hlast : max (-2148 + (t : Int) + (m.log2 : Int) - (double.fractionBits : Int)) double.leastPlace = -1074 + (E : Int) := by rw [h3, h4]; omega
  show double.word neg (min ((max (-2148 + (t : Int) + (m.log2 : Int) - (double.fractionBits : Int)) double.leastPlace - double.leastPlace).toNat * double.binade + Toward.even.cut neg (m <<< (-2148 + (t : Int) - max (-2148 + (t : Int) + (m.log2 : Int) - (double.fractionBits : Int)) double.leastPlace).toNat) (max (-2148 + (t : Int) + (m.log2 : Int) - (double.fractionBits : Int)) double.leastPlace - (-2148 + (t : Int))).toNat) double.infRung) = _
  rw [hlast, h3, cut_even, Nat.shiftLeft_eq, show (-1074 + (E : Int) - -1074).toNat = E by omega, show double.binade = 2 ^ 52 from rfl, show double.infRung = 2047 * 2 ^ 52 from rfl]
  have hRE : RE (m * 2 ^ (-2148 + (t : Int) - (-1074 + (E : Int))).toNat) (2 ^ (-1074 + (E : Int) - (-2148 + (t : Int))).toNat) = RE (m * 2 ^ t) (2 ^ (K + E)) := by
    by_cases hc : K + E ≤ t
    · rw [show (-2148 + (t : Int) - (-1074 + (E : Int))).toNat = t - (K + E) by omega, show (-1074 + (E : Int) - (-2148 + (t : Int))).toNat = 0 by omega]
      have := RE_scale (m * 2 ^ (t - (K + E))) (2 ^ 0) (2 ^ (K + E)) (Nat.two_pow_pos _)
      rw [Nat.mul_assoc, ← Nat.pow_add, Nat.sub_add_cancel hc, ← Nat.pow_add, Nat.zero_add] at this
      exact this.symm
    · rw [show (-2148 + (t : Int) - (-1074 + (E : Int))).toNat = 0 by omega, show (-1074 + (E : Int) - (-2148 + (t : Int))).toNat = K + E - t by omega]
      have := RE_scale (m * 2 ^ 0) (2 ^ (K + E - t)) (2 ^ t) hp
      rw [← Nat.pow_add, Nat.sub_add_cancel (by omega), Nat.pow_zero, Nat.mul_one] at this
      rw [Nat.pow_zero, Nat.mul_one]
      exact this.symm
  rw [hRE]

theorem rung_word (neg : Bool) (r : Nat) (h : r ≤ INF) : rung (double.word neg r) = r := by
  have h0 : double.signWeight = 2 ^ 63 := rfl
  rw [INF_eq] at h
  unfold rung Format.word
  rw [h0]
  cases neg
  · show r % 2 ^ 63 = r
    exact Nat.mod_eq_of_lt (by omega)
  · show (2 ^ 63 + r) % 2 ^ 63 = r
    omega
theorem sgn_word (neg : Bool) (r : Nat) (h : r ≤ INF) : sgn (double.word neg r) = neg := by
  have h0 : double.signWeight = 2 ^ 63 := rfl
  rw [INF_eq] at h
  unfold sgn Format.word
  rw [h0]
  cases neg
  · show (r / 2 ^ 63 % 2 == 1) = false
    rw [Nat.div_eq_of_lt (by omega)]; rfl
  · show ((2 ^ 63 + r) / 2 ^ 63 % 2 == 1) = true
    rw [show (2 ^ 63 + r) / 2 ^ 63 = 1 by omega]; rfl
theorem key_word (neg : Bool) (r : Nat) (h : r ≤ INF) : key (double.word neg r) = sv neg r := by
  unfold key; rw [rung_word neg r h, sgn_word neg r h]

/-- The product of two finite words. -/
theorem mul_fin (K : Nat) (hK : K = 1074) (x y : Nat) (hx : rung x < INF) (hy : rung y < INF) : double.mul x y = some (double.word (sgn x ^^ sgn y) (G K (Mg (rung x) * Mg (rung y)))) := by
  obtain ⟨m, e, hr, hm⟩ := read_fin x hx
  obtain ⟨n, e', hr', hn⟩ := read_fin y hy
  unfold Format.mul
  rw [hr, hr']
  show some (double.nearest (sgn x ^^ sgn y) (m * n) (-1074 + (e : Int) + (-1074 + (e' : Int)))) = _
  rw [show -1074 + (e : Int) + (-1074 + (e' : Int)) = -2148 + ((e + e' : Nat) : Int) by omega, nearest_eq K hK, ← hm, ← hn, Nat.pow_add, show m * n * (2 ^ e * 2 ^ e') = m * 2 ^ e * (n * 2 ^ e') by rw [Nat.mul_assoc, Nat.mul_assoc, Nat.mul_left_comm n]]
/-- The product of a finite word that is not zero and an infinity. -/
theorem mul_inf (x y : Nat) (h0 : 0 < rung x) (hx : rung x < INF) (hy : rung y = INF) : double.mul x y = some (double.word (sgn x ^^ sgn y) INF) := by
  obtain ⟨m, e, hr, hm⟩ := read_fin x hx
  have hm0 : m ≠ 0 := by
    intro h
    rw [h, Nat.zero_mul] at hm
    have := (Mg_le (rung x) 0 hx (by omega)).1 (by rw [← hm]; exact Nat.zero_le _)
    omega
  unfold Format.mul
  rw [hr, read_inf y hy]
  show (if m = 0 then Option.none else some (Datum.infinity (sgn y ^^ sgn x))).map double.write = _
  rw [if_neg hm0, Bool.xor_comm]
  rfl

theorem sum_pos (K : Nat) (hK : K = 1074) (s t : Bool) (m n e e' : Nat) (T : Nat) (hT : sv s (m * 2 ^ e) + sv t (n * 2 ^ e') = (T : Int)) (h0 : 0 < T) :
    ((Datum.number s m (-1074 + (e : Int))).sum (Datum.number t n (-1074 + (e' : Int)))).map double.write = some (double.word false (G K (T * 2 ^ K))) := by
  have e1 : (-1074 + (e : Int) - min (-1074 + (e : Int)) (-1074 + (e' : Int))).toNat = e - min e e' := by omega
  have e2 : (-1074 + (e' : Int) - min (-1074 + (e : Int)) (-1074 + (e' : Int))).toNat = e' - min e e' := by omega
  have e3 : min (-1074 + (e : Int)) (-1074 + (e' : Int)) = -2148 + ((K + min e e' : Nat) : Int) := by omega
  show (some (Datum.number (if signed s m (-1074 + (e : Int) - min (-1074 + (e : Int)) (-1074 + (e' : Int))).toNat + signed t n (-1074 + (e' : Int) - min (-1074 + (e : Int)) (-1074 + (e' : Int))).toNat = 0 then s && t else decide (signed s m (-1074 + (e : Int) - min (-1074 + (e : Int)) (-1074 + (e' : Int))).toNat + signed t n (-1074 + (e' : Int) - min (-1074 + (e : Int)) (-1074 + (e' : Int))).toNat < 0)) (signed s m (-1074 + (e : Int) - min (-1074 + (e : Int)) (-1074 + (e' : Int))).toNat + signed t n (-1074 + (e' : Int) - min (-1074 + (e : Int)) (-1074 + (e' : Int))).toNat).natAbs (min (-1074 + (e : Int)) (-1074 + (e' : Int))))).map double.write = _
  rw [e1, e2, e3, signed_eq, signed_eq]
  obtain ⟨S, hS⟩ : ∃ S, S = sv s (m * 2 ^ (e - min e e')) + sv t (n * 2 ^ (e' - min e e')) := ⟨_, rfl⟩
  rw [← hS]
  have hST : S * ((2 ^ min e e' : Nat) : Int) = (T : Int) := by
    rw [hS, Int.add_mul, ← sv_mul, ← sv_mul, Nat.mul_assoc, Nat.mul_assoc, ← Nat.pow_add, ← Nat.pow_add, Nat.sub_add_cancel (Nat.min_le_left ..), Nat.sub_add_cancel (Nat.min_le_right ..)]
    exact hT
  have hp : 0 < 2 ^ min e e' := Nat.two_pow_pos _
  have hSpos : 0 < S := by
    by_cases h : 0 < S
    · exact h
    · have : S * ((2 ^ min e e' : Nat) : Int) ≤ 0 := Int.mul_nonpos_of_nonpos_of_nonneg (by omega) (by omega)
      omega
  obtain ⟨N, rfl⟩ : ∃ N : Nat, S = (N : Int) := ⟨S.toNat, by omega⟩
  have hN : N * 2 ^ min e e' = T := Int.ofNat_inj.1 (by rw [Int.natCast_mul]; exact hST)
  rw [if_neg (by omega), decide_eq_false (by omega)]
  show some (double.nearest false (N : Int).natAbs (-2148 + ((K + min e e' : Nat) : Int))) = _
  rw [Int.natAbs_natCast, nearest_eq K hK, Nat.add_comm K, Nat.pow_add, ← Nat.mul_assoc, hN]

end Go.Proofs.Qxb6601171a
