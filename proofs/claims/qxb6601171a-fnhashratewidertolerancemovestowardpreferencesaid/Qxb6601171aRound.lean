/-
  Plain mathematics (seat b6601171a): how the model rounds to a float64, as a function 'G' on whole numbers in units of 2^-2148; that it is monotone; that it gives back what is a float64 already.
-/
import Ieee.Arith
namespace Go.Proofs.Qxb6601171a
open Ieee

/-- n / d to the nearest whole number, ties to the even one. -/
def RE (n d : Nat) : Nat := n / d + (decide (d < 2 * (n % d)) || (d == 2 * (n % d) && n / d % 2 == 1)).toNat

theorem RE_scale (n d c : Nat) (hc : 0 < c) : RE (n * c) (d * c) = RE n d := by
  unfold RE
  rw [Nat.mul_div_mul_right _ _ hc, Nat.mul_mod_mul_right]
  have h1 : (d * c < 2 * (n % d * c)) ↔ d < 2 * (n % d) := by
    rw [← Nat.mul_assoc]; exact Nat.mul_lt_mul_right hc
  have h2 : (d * c = 2 * (n % d * c)) ↔ d = 2 * (n % d) := by
    rw [← Nat.mul_assoc]; exact ⟨fun h => Nat.eq_of_mul_eq_mul_right hc h, fun h => congrArg (· * c) h⟩
  have h3 : (d * c == 2 * (n % d * c)) = (d == 2 * (n % d)) := by rw [Bool.eq_iff_iff, beq_iff_eq, beq_iff_eq]; exact h2
  rw [h3, decide_eq_decide.2 h1]

theorem RE_mono (n1 n2 d : Nat) (h : n1 ≤ n2) : RE n1 d ≤ RE n2 d := by
  unfold RE
  have hq : n1 / d ≤ n2 / d := Nat.div_le_div_right h
  by_cases he : n1 / d = n2 / d
  · have h1 := Nat.div_add_mod n1 d
    have h2 := Nat.div_add_mod n2 d
    rw [he] at h1
    have hr : n1 % d ≤ n2 % d := by omega
    rw [he]
    refine Nat.add_le_add_left ?_ _
    by_cases ha : d < 2 * (n2 % d)
    · simp [ha]
      exact Bool.toNat_le _
    · have hb : ¬ d < 2 * (n1 % d) := by omega
      by_cases hc : d = 2 * (n1 % d)
      · have hd : d = 2 * (n2 % d) := by omega
        simp only [decide_eq_false ha, decide_eq_false hb, Bool.false_or]
        rw [← hc, ← hd]
        exact Nat.le_refl _
      · simp only [decide_eq_false hb, Bool.false_or]
        have : (d == 2 * (n1 % d)) = false := by simpa using hc
        simp [this]
  · have : (decide (d < 2 * (n1 % d)) || (d == 2 * (n1 % d) && n1 / d % 2 == 1)).toNat ≤ 1 := Bool.toNat_le _
    omega

theorem RE_exact (k d : Nat) (hd : 0 < d) : RE (k * d) d = k := by
  unfold RE
  rw [Nat.mul_div_cancel _ hd, Nat.mul_mod_left]
  simp
  omega

theorem RE_le (n d k : Nat) (hd : 0 < d) (h : n ≤ k * d) : RE n d ≤ k := by
  have := RE_mono n (k * d) d h
  rwa [RE_exact k d hd] at this
theorem le_RE (n d k : Nat) (hd : 0 < d) (h : k * d ≤ n) : k ≤ RE n d := by
  have := RE_mono (k * d) n d h
  rwa [RE_exact k d hd] at this

theorem cut_even (neg : Bool) (n drop : Nat) : Toward.even.cut neg n drop = RE n (2 ^ drop) := by
  unfold Toward.cut RE
  simp only [Nat.one_shiftLeft]
  by_cases h : drop ≤ n.log2 + 2
  · rw [Nat.min_eq_left h]
  · rw [Nat.min_eq_right (by omega)]
    have hn : n < 2 ^ (n.log2 + 1) := Nat.lt_log2_self
    have h2 : 2 ^ (n.log2 + 2) = 2 * 2 ^ (n.log2 + 1) := by rw [Nat.pow_succ]; omega
    have h3 : 2 ^ (n.log2 + 2) ≤ 2 ^ drop := Nat.pow_le_pow_right (by omega) (by omega)
    have b1 : n % 2 ^ (n.log2 + 2) = n := Nat.mod_eq_of_lt (by omega)
    have b2 : n % 2 ^ drop = n := Nat.mod_eq_of_lt (by omega)
    have b3 : n / 2 ^ (n.log2 + 2) = 0 := Nat.div_eq_of_lt (by omega)
    have b4 : n / 2 ^ drop = 0 := Nat.div_eq_of_lt (by omega)
    have a1 : ¬ 2 ^ (n.log2 + 2) < 2 * n := by omega
    have a2 : ¬ 2 ^ drop < 2 * n := by omega
    rw [b1, b2, b3, b4]
    simp [a1, a2]

/-- The rung to which N (in units of 2^-2K) is rounded. -/
def G (K N : Nat) : Nat := if N = 0 then 0 else min ((N.log2 - (K + 52)) * 2 ^ 52 + RE N (2 ^ (K + (N.log2 - (K + 52))))) (2047 * 2 ^ 52)

theorem log2_mono (a b : Nat) (ha : a ≠ 0) (h : a ≤ b) : a.log2 ≤ b.log2 := (Nat.le_log2 (by omega)).2 (Nat.le_trans (Nat.log2_self_le ha) h)

theorem G_mono (K a b : Nat) (h : a ≤ b) : G K a ≤ G K b := by
  unfold G
  by_cases ha : a = 0
  · simp [ha]
  have hb : b ≠ 0 := by omega
  rw [if_neg ha, if_neg hb]
  have hl := log2_mono a b ha h
  have key : (a.log2 - (K + 52)) * 2 ^ 52 + RE a (2 ^ (K + (a.log2 - (K + 52)))) ≤ (b.log2 - (K + 52)) * 2 ^ 52 + RE b (2 ^ (K + (b.log2 - (K + 52)))) := by
    by_cases he : a.log2 - (K + 52) = b.log2 - (K + 52)
    · rw [he]
      exact Nat.add_le_add_left (RE_mono _ _ _ h) _
    · have hp1 : 0 < 2 ^ (K + (a.log2 - (K + 52))) := Nat.two_pow_pos _
      have hp2 : 0 < 2 ^ (K + (b.log2 - (K + 52))) := Nat.two_pow_pos _
      have h1 : RE a (2 ^ (K + (a.log2 - (K + 52)))) ≤ 2 ^ 53 := by
        refine RE_le _ _ _ hp1 ?_
        rw [← Nat.pow_add]
        refine Nat.le_trans (Nat.le_of_lt Nat.lt_log2_self) (Nat.pow_le_pow_right (by omega) (by omega))
      have h2 : 2 ^ 52 ≤ RE b (2 ^ (K + (b.log2 - (K + 52)))) := by
        refine le_RE _ _ _ hp2 ?_
        rw [← Nat.pow_add]
        refine Nat.le_trans (Nat.pow_le_pow_right (by omega) (by omega)) (Nat.log2_self_le hb)
      omega
  omega

theorem G_le (K a : Nat) : G K a ≤ 2047 * 2 ^ 52 := by
  unfold G; split <;> omega

/-- The magnitude of a rung, in units of 2^-K. -/
def Mg (r : Nat) : Nat := if r < 2 ^ 52 then r else (2 ^ 52 + r % 2 ^ 52) * 2 ^ (r / 2 ^ 52 - 1)

theorem G_Mg (K r : Nat) (hr : r < 2047 * 2 ^ 52) : G K (Mg r * 2 ^ K) = r := by
  unfold Mg
  split
  · rename_i h
    by_cases h0 : r = 0
    · simp [h0, G]
    unfold G
    have hp : 0 < 2 ^ K := Nat.two_pow_pos _
    have hne : r * 2 ^ K ≠ 0 := Nat.mul_ne_zero h0 (by omega)
    have hl : (r * 2 ^ K).log2 < K + 52 := by
      rw [Nat.log2_lt hne, Nat.add_comm K, Nat.pow_add]
      exact (Nat.mul_lt_mul_right hp).2 h
    rw [if_neg hne, show (r * 2 ^ K).log2 - (K + 52) = 0 by omega, Nat.add_zero, RE_exact _ _ hp]
    omega
  · rename_i h
    have h1 : r % 2 ^ 52 < 2 ^ 52 := Nat.mod_lt _ (by omega)
    have h2 := Nat.div_add_mod r (2 ^ 52)
    obtain ⟨e, he⟩ : ∃ e, r / 2 ^ 52 = e + 1 := ⟨r / 2 ^ 52 - 1, by omega⟩
    obtain ⟨f, hf⟩ : ∃ f, f = 2 ^ 52 + r % 2 ^ 52 := ⟨_, rfl⟩
    rw [he, ← hf, Nat.add_sub_cancel]
    unfold G
    have hp : 0 < 2 ^ (K + e) := Nat.two_pow_pos _
    have e1 : f * 2 ^ e * 2 ^ K = f * 2 ^ (K + e) := by rw [Nat.mul_assoc, ← Nat.pow_add, Nat.add_comm e]
    rw [e1]
    have hne : f * 2 ^ (K + e) ≠ 0 := Nat.mul_ne_zero (by omega) (by omega)
    have hl : (f * 2 ^ (K + e)).log2 = K + 52 + e := by
      rw [Nat.log2_eq_iff hne]
      constructor
      · rw [show K + 52 + e = 52 + (K + e) by omega, Nat.pow_add 2 52]
        exact Nat.mul_le_mul_right _ (by omega)
      · rw [show K + 52 + e + 1 = 53 + (K + e) by omega, Nat.pow_add 2 53]
        exact (Nat.mul_lt_mul_right hp).2 (by omega)
    rw [if_neg hne, hl, show K + 52 + e - (K + 52) = e by omega, RE_exact _ _ hp]
    omega

theorem Mg_le (r s : Nat) (hr : r < 2047 * 2 ^ 52) (hs : s < 2047 * 2 ^ 52) : Mg r ≤ Mg s ↔ r ≤ s := by
  have back : ∀ a b, a < 2047 * 2 ^ 52 → b < 2047 * 2 ^ 52 → Mg a ≤ Mg b → a ≤ b := by
    intro a b ha hb h
    have := G_mono 0 (Mg a * 2 ^ 0) (Mg b * 2 ^ 0) (Nat.mul_le_mul_right _ h)
    rwa [G_Mg 0 a ha, G_Mg 0 b hb] at this
  refine ⟨back r s hr hs, fun h => ?_⟩
  by_cases hc : Mg r ≤ Mg s
  · exact hc
  · have := back s r hs hr (by omega)
    have e : r = s := by omega
    rw [e] at hc
    omega

end Go.Proofs.Qxb6601171a
