/-
  Plain mathematics (seat b6601171a): the band within which the rate is held, and that a wider tolerance gives a wider band.
-/
import Derived.Test.Qxb6601171aWord
namespace Go.Proofs.Qxb6601171a
open Ieee

/-- The word of 1.0. -/
def ONE : Nat := 4607182418800017408
theorem ONE_eq : ONE = 1023 * 2 ^ 52 := rfl
theorem ONE_rung : rung ONE = ONE := rfl
theorem ONE_sgn : sgn ONE = false := rfl
theorem ONE_key : key ONE = (ONE : Int) := rfl
theorem ONE_lt : ONE < INF := by rw [ONE_eq, INF_eq]; omega

theorem Mg_pow (e : Nat) : Mg ((e + 1) * 2 ^ 52) = 2 ^ (52 + e) := by
  unfold Mg
  rw [if_neg (by omega), Nat.mul_mod_left, Nat.add_zero, Nat.mul_div_cancel _ (by omega), Nat.add_sub_cancel, ← Nat.pow_add]
theorem Mg_ONE (K : Nat) (hK : K = 1074) : Mg ONE = 2 ^ K := by
  have := Mg_pow 1022
  rw [show 52 + 1022 = K by omega] at this
  exact this
theorem Mg_TWO (K : Nat) (hK : K = 1074) : Mg (1024 * 2 ^ 52) = 2 ^ K + 2 ^ K := by
  have := Mg_pow 1023
  rw [show 52 + 1023 = K + 1 by omega, show 2 ^ (K + 1) = 2 ^ K + 2 ^ K by rw [Nat.pow_succ, Nat.mul_two]] at this
  exact this

def down (K a : Nat) : Nat := G K ((2 ^ K - Mg a) * 2 ^ K)
def upw (K a : Nat) : Nat := G K ((2 ^ K + Mg a) * 2 ^ K)
/-- What A times c is rounded to. -/
def prod (K A c : Nat) : Nat := if c < INF then G K (Mg A * Mg c) else INF

theorem Mg_mono {a b : Nat} (hb : b < INF) (h : a ≤ b) : Mg a ≤ Mg b := (Mg_le a b (by unfold INF at hb; omega) hb).2 h
theorem Mg_lt {a b : Nat} (hb : b < INF) (h : a < b) : Mg a < Mg b := by
  have := Mg_le b a hb (by unfold INF at hb; omega)
  omega
theorem Mg_lt_one {K : Nat} (hK : K = 1074) {a : Nat} (h : a < ONE) : Mg a < 2 ^ K := by
  rw [← Mg_ONE K hK]; exact Mg_lt ONE_lt h

theorem down_le {K : Nat} (hK : K = 1074) (a : Nat) : down K a ≤ ONE := by
  have := G_mono K ((2 ^ K - Mg a) * 2 ^ K) (2 ^ K * 2 ^ K) (Nat.mul_le_mul_right _ (Nat.sub_le _ _))
  rw [show 2 ^ K * 2 ^ K = Mg ONE * 2 ^ K by rw [Mg_ONE K hK], G_Mg K ONE ONE_lt] at this
  exact this
theorem down_pos {K : Nat} (hK : K = 1074) {a : Nat} (h : a < ONE) : 0 < down K a := by
  have hl := Mg_lt_one hK h
  have := G_mono K (Mg 1 * 2 ^ K) ((2 ^ K - Mg a) * 2 ^ K) (Nat.mul_le_mul_right _ (by show 1 ≤ _; omega))
  rw [G_Mg K 1 (by omega)] at this
  exact this
theorem down_anti {K : Nat} {a b : Nat} (hb : b < INF) (h : a ≤ b) : down K b ≤ down K a :=
  G_mono K _ _ (Nat.mul_le_mul_right _ (Nat.sub_le_sub_left (Mg_mono hb h) _))
theorem le_upw {K : Nat} (hK : K = 1074) (a : Nat) : ONE ≤ upw K a := by
  have := G_mono K (2 ^ K * 2 ^ K) ((2 ^ K + Mg a) * 2 ^ K) (Nat.mul_le_mul_right _ (Nat.le_add_right _ _))
  rw [show 2 ^ K * 2 ^ K = Mg ONE * 2 ^ K by rw [Mg_ONE K hK], G_Mg K ONE ONE_lt] at this
  exact this
theorem upw_lt {K : Nat} (hK : K = 1074) {a : Nat} (h : a < ONE) : upw K a < INF := by
  have hl := Mg_lt_one hK h
  have := G_mono K ((2 ^ K + Mg a) * 2 ^ K) (Mg (1024 * 2 ^ 52) * 2 ^ K) (Nat.mul_le_mul_right _ (by rw [Mg_TWO K hK]; omega))
  rw [G_Mg K (1024 * 2 ^ 52) (by omega)] at this
  rw [INF_eq]
  unfold upw
  omega
theorem upw_mono {K : Nat} {a b : Nat} (hb : b < INF) (h : a ≤ b) : upw K a ≤ upw K b :=
  G_mono K _ _ (Nat.mul_le_mul_right _ (Nat.add_le_add_left (Mg_mono hb h) _))

theorem prod_mono {K A A' : Nat} (hA : A' < INF) (h : A ≤ A') (c : Nat) : prod K A c ≤ prod K A' c := by
  unfold prod
  split
  · exact G_mono K _ _ (Nat.mul_le_mul_right _ (Mg_mono hA h))
  · exact Nat.le_refl _
theorem prod_one {K : Nat} (hK : K = 1074) {c : Nat} (hc : c ≤ INF) : prod K ONE c = c := by
  unfold prod
  split
  · rename_i h
    rw [Mg_ONE K hK, Nat.mul_comm, G_Mg K c h]
  · omega

/-- The wider the tolerance, the wider the band; both hold c. -/
theorem bands {K : Nat} (hK : K = 1074) {a b c : Nat} (hab : a ≤ b) (hb : b < ONE) (hc : c ≤ INF) :
    prod K (down K b) c ≤ prod K (down K a) c ∧ prod K (down K a) c ≤ c ∧ c ≤ prod K (upw K a) c ∧ prod K (upw K a) c ≤ prod K (upw K b) c := by
  have h1 := ONE_lt
  have hb' : b < INF := by omega
  have hd := down_le hK a
  have hu := le_upw hK a
  have hul := upw_lt hK hb
  have hum : upw K a ≤ upw K b := upw_mono hb' hab
  refine ⟨prod_mono (by omega) (down_anti hb' hab) c, ?_, ?_, prod_mono hul hum c⟩
  · have := prod_mono (K := K) h1 hd c
    rwa [prod_one hK hc] at this
  · have := prod_mono (K := K) (A' := upw K a) (by omega) hu c
    rwa [prod_one hK hc] at this

theorem nonneg {x : Nat} (h : 0 ≤ key x) : key x = (rung x : Int) ∧ sv (sgn x) (Mg (rung x)) = (Mg (rung x) : Int) ∧ sv (!sgn x) (Mg (rung x)) = -(Mg (rung x) : Int) ∧ (sgn x = true → rung x = 0) := by
  unfold key at h ⊢
  cases hs : sgn x
  · simp [sv]
  · rw [hs] at h
    simp only [sv_true] at h
    have h0 : rung x = 0 := by omega
    rw [h0]
    simp [sv, show Mg 0 = 0 from rfl]

theorem sub_one {K : Nat} (hK : K = 1074) {t : Nat} (h0 : 0 ≤ key t) (h1 : rung t < ONE) : double.sub ONE t = some (double.word false (down K (rung t))) := by
  obtain ⟨m, e, hr, hm⟩ := read_fin ONE ONE_lt
  obtain ⟨n, e', hr', hn⟩ := read_fin t (by have := ONE_lt; omega)
  have hl := Mg_lt_one hK h1
  rw [ONE_rung, Mg_ONE K hK] at hm
  unfold Format.sub
  rw [hr, hr']
  refine sum_pos K hK (sgn ONE) (!sgn t) m n e e' (2 ^ K - Mg (rung t)) ?_ (by omega)
  rw [hm, hn, (nonneg h0).2.2.1, ONE_sgn, sv_false]
  omega
theorem add_one {K : Nat} (hK : K = 1074) {t : Nat} (h0 : 0 ≤ key t) (h1 : rung t < ONE) : double.add ONE t = some (double.word false (upw K (rung t))) := by
  obtain ⟨m, e, hr, hm⟩ := read_fin ONE ONE_lt
  obtain ⟨n, e', hr', hn⟩ := read_fin t (by have := ONE_lt; omega)
  have hp : 0 < 2 ^ K := Nat.two_pow_pos _
  rw [ONE_rung, Mg_ONE K hK] at hm
  unfold Format.add
  rw [hr, hr']
  refine sum_pos K hK (sgn ONE) (sgn t) m n e e' (2 ^ K + Mg (rung t)) ?_ (by omega)
  rw [hm, hn, (nonneg h0).2.1, ONE_sgn, sv_false]
  omega

theorem mul_key {K : Nat} (hK : K = 1074) {A c : Nat} (hA0 : 0 < A) (hA : A < INF) (hc : 0 ≤ key c) (hcn : rung c ≤ INF) : ∃ r, double.mul (double.word false A) c = some r ∧ rung r ≤ INF ∧ key r = (prod K A (rung c) : Int) := by
  have hw := rung_word false A (by omega)
  have hsw := sgn_word false A (by omega)
  unfold prod
  by_cases h : rung c < INF
  · have hG : G K (Mg A * Mg (rung c)) ≤ INF := G_le K _
    refine ⟨_, mul_fin K hK _ c (by omega) h, ?_, ?_⟩
    · rw [hw, rung_word _ _ hG]; exact hG
    · rw [hw, hsw, key_word _ _ hG, if_pos h, Bool.false_xor]
      cases hs : sgn c
      · rfl
      · rw [(nonneg hc).2.2.2 hs]
        rfl
  · refine ⟨_, mul_inf _ c (by omega) (by omega) (by omega), ?_, ?_⟩
    · rw [rung_word _ _ (Nat.le_refl _)]; exact Nat.le_refl _
    · rw [hsw, key_word _ _ (Nat.le_refl _), if_neg h, Bool.false_xor]
      cases hs : sgn c
      · rfl
      · have := (nonneg hc).2.2.2 hs
        rw [INF_eq] at h
        omega

/-- What the four operations of HashRate's second return give. -/
theorem band {K : Nat} (hK : K = 1074) {t c : Nat} (h0 : 0 ≤ key t) (h1 : rung t < ONE) (hc : 0 ≤ key c) (hcn : rung c ≤ INF) :
    ∃ A L B H, double.sub ONE t = some A ∧ double.mul A c = some L ∧ double.add ONE t = some B ∧ double.mul B c = some H ∧ rung L ≤ INF ∧ rung H ≤ INF ∧ key L = (prod K (down K (rung t)) (rung c) : Int) ∧ key H = (prod K (upw K (rung t)) (rung c) : Int) := by
  have hd := down_le hK (rung t)
  have hu := le_upw hK (rung t)
  have h2 := ONE_lt
  obtain ⟨L, hL, hL1, hL2⟩ := mul_key hK (down_pos hK h1) (by omega) hc hcn
  obtain ⟨H, hH, hH1, hH2⟩ := mul_key hK (A := upw K (rung t)) (by rw [ONE_eq] at hu; omega) (upw_lt hK h1) hc hcn
  exact ⟨_, L, _, H, sub_one hK h0 h1, hL, add_one hK h0 h1, hH, hL1, hH1, hL2, hH2⟩

/-- The greater, the lesser of two words as Go's max and min choose them. -/
def fmax (x y : Nat) : Nat := match double.order x y with
  | some .lt => y
  | some .gt => x
  | _ => if (double.read x).neg then y else x
def fmin (x y : Nat) : Nat := match double.order x y with
  | some .lt => x
  | some .gt => y
  | _ => if (double.read x).neg then x else y

theorem fmax_key {x y : Nat} (hx : rung x ≤ INF) (hy : rung y ≤ INF) : rung (fmax x y) ≤ INF ∧ key (fmax x y) = max (key x) (key y) := by
  unfold fmax
  rw [order_key x y hx hy]
  rcases (show key x < key y ∨ key y < key x ∨ key x = key y by omega) with h | h | h
  · rw [cmp_lt h]; exact ⟨hy, by show key y = _; omega⟩
  · rw [cmp_gt h]; exact ⟨hx, by show key x = _; omega⟩
  · have : compare (key x) (key y) = .eq := by rw [h]; show compareOfLessAndEq _ _ = _; simp [compareOfLessAndEq]
    rw [this]
    show rung (if (double.read x).neg then y else x) ≤ INF ∧ key (if (double.read x).neg then y else x) = max (key x) (key y)
    split
    · exact ⟨hy, by omega⟩
    · exact ⟨hx, by omega⟩
theorem fmin_key {x y : Nat} (hx : rung x ≤ INF) (hy : rung y ≤ INF) : rung (fmin x y) ≤ INF ∧ key (fmin x y) = min (key x) (key y) := by
  unfold fmin
  rw [order_key x y hx hy]
  rcases (show key x < key y ∨ key y < key x ∨ key x = key y by omega) with h | h | h
  · rw [cmp_lt h]; exact ⟨hx, by show key x = _; omega⟩
  · rw [cmp_gt h]; exact ⟨hy, by show key y = _; omega⟩
  · have : compare (key x) (key y) = .eq := by rw [h]; show compareOfLessAndEq _ _ = _; simp [compareOfLessAndEq]
    rw [this]
    show rung (if (double.read x).neg then x else y) ≤ INF ∧ key (if (double.read x).neg then x else y) = min (key x) (key y)
    split
    · exact ⟨hx, by omega⟩
    · exact ⟨hy, by omega⟩

/-- The rate's key. -/
def rateKey (K t c : Nat) (p : Int) : Int := if ONE ≤ t then p else min (max p (prod K (down K t) c : Int)) (prod K (upw K t) c : Int)

/-- THE LAW, PLAIN: the rate under the wider tolerance lies between the preference and the rate under the narrower. -/
theorem toward {K : Nat} (hK : K = 1074) {a b c : Nat} (hab : a ≤ b) (hc : c ≤ INF) (p : Int) :
    (p ≤ rateKey K b c p ∧ rateKey K b c p ≤ rateKey K a c p) ∨ (rateKey K a c p ≤ rateKey K b c p ∧ rateKey K b c p ≤ p) := by
  unfold rateKey
  by_cases hb : ONE ≤ b
  · rw [if_pos hb]
    omega
  · have h := bands hK hab (show b < ONE by omega) hc
    rw [if_neg hb, if_neg (by omega)]
    omega

end Go.Proofs.Qxb6601171a
