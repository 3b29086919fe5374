/-
  The walk of HashRate (5) (seat b6601171a).
-/
import Derived.Test.Qxb6601171aRows
import Derived.Test.Qxb6601171aRate
import Derived.WalkKit
import Derived.ProofKit
import Derived.Below
import Derived.WalkSpells
import Derived.WalkLawsBesides
import Derived.Laws.FloatArith
namespace Go.Proofs.Qxb6601171a
open Go.ChangeShapes Go.WideShapes Go.ChangeAt Go.RowKit
set_option linter.unusedVariables false

theorem run_max_num (x y : Nat) (hx : rung x ≤ INF) (hy : rung y ≤ INF) (w : World) : (Builtin.max_ #[22, 22] 22 #[.float .f64 x, .float .f64 y]).run Try.prog w = .ok (.float .f64 (fmax x y)) w := by
  have ho : FloatKind.f64.format.order x y = some (compare (key x) (key y)) := order_key x y hx hy
  have ho' : Ieee.double.order x y = some (compare (key x) (key y)) := order_key x y hx hy
  unfold fmax
  rw [ho']
  simp only [Builtin.max_, List.foldlM, Builtin.max2, ho]
  cases compare (key x) (key y) <;> rfl
theorem run_min_num (x y : Nat) (hx : rung x ≤ INF) (hy : rung y ≤ INF) (w : World) : (Builtin.min_ #[22, 22] 22 #[.float .f64 x, .float .f64 y]).run Try.prog w = .ok (.float .f64 (fmin x y)) w := by
  have ho : FloatKind.f64.format.order x y = some (compare (key x) (key y)) := order_key x y hx hy
  have ho' : Ieee.double.order x y = some (compare (key x) (key y)) := order_key x y hx hy
  unfold fmin
  rw [ho']
  simp only [Builtin.min_, List.foldlM, Builtin.min2, ho]
  cases compare (key x) (key y) <;> rfl

/-- The NaN that the tape answers. -/
def nanAt (q : Question) (w : World) : Nat := q.cut (w.tape w.drawn q)
theorem nan_range (t : Nat) : INF < ((t % 2) * 2 ^ 63 + 0x7ff0000000000000 + 1 + (t / 2) % (2 ^ 52 - 1)) % 2 ^ 63 := by
  have h1 : t / 2 % (2 ^ 52 - 1) < 2 ^ 52 - 1 := Nat.mod_lt _ (by omega)
  obtain ⟨k, hk⟩ : ∃ k, k = t / 2 % (2 ^ 52 - 1) := ⟨_, rfl⟩
  rw [← hk] at h1 ⊢
  rw [INF_eq]
  rcases (show t % 2 = 0 ∨ t % 2 = 1 by omega) with h | h
  · rw [h]; omega
  · rw [h]; omega
theorem nanAt_nan (b : Bool) (x y : Nat) (w : World) : INF < rung (nanAt (.nanMinMax .f64 b x y) w) := nan_range _
theorem run_max_nan (x y : Nat) (hx : INF < rung x) (w : World) : (Builtin.max_ #[22, 22] 22 #[.float .f64 x, .float .f64 y]).run Try.prog w = .ok (.float .f64 (nanAt (.nanMinMax .f64 true x y) w)) w.drew := by
  have ho : FloatKind.f64.format.order x y = none := order_nan_left x y hx
  simp only [Builtin.max_, List.foldlM, Builtin.max2, ho]
  rfl
theorem run_min_nan (x y : Nat) (hx : INF < rung x) (w : World) : (Builtin.min_ #[22, 22] 22 #[.float .f64 x, .float .f64 y]).run Try.prog w = .ok (.float .f64 (nanAt (.nanMinMax .f64 false x y) w)) w.drew := by
  have ho : FloatKind.f64.format.order x y = none := order_nan_left x y hx
  simp only [Builtin.min_, List.foldlM, Builtin.min2, ho]
  rfl

/-- What HashRate's answer r has to do with its operands. -/
def RateIs (K t p c r : Nat) : Prop := (INF < rung p → INF < rung r) ∧ (rung p ≤ INF → rung r ≤ INF ∧ key r = rateKey K (rung t) (rung c) (key p))

set_option maxHeartbeats 400000 in
theorem rate_full (t r p c : Nat) (i j : Int) (w : World) (ht : FloatKind.f64.format.order t 4607182418800017408 = some .gt ∨ FloatKind.f64.format.order t 4607182418800017408 = some .eq) :
    Calls Try.prog 5 #[.agg #[.float .f64 t, .float .f64 r, .int .i64 i, .int .i64 j], .float .f64 p, .float .f64 c] w fun e w' => e = .returned (.float .f64 p) ∧ Below w.heap.size w w' := by
  rcases ht with ht | ht
  all_goals
    go_enter Try.func5, Try.ntmps5
    go_wp2
    go_ret
    exact ⟨rfl, (Below.refl _ _).alloc (Nat.le_refl _) _⟩

set_option maxHeartbeats 400000 in
theorem rate_band (t r p c A L B H M N : Nat) (i j : Int) (w : World) (ht : FloatKind.f64.format.order t 4607182418800017408 = some .lt)
    (hA : floatBits .sub .f64 4607182418800017408 t = some A) (hL : floatBits .mul .f64 A c = some L) (hB : floatBits .add .f64 4607182418800017408 t = some B) (hH : floatBits .mul .f64 B c = some H)
    (hM : ∀ w, (Builtin.max_ #[22, 22] 22 #[.float .f64 p, .float .f64 L]).run Try.prog w = .ok (.float .f64 M) w) (hN : ∀ w, (Builtin.min_ #[22, 22] 22 #[.float .f64 M, .float .f64 H]).run Try.prog w = .ok (.float .f64 N) w) :
    Calls Try.prog 5 #[.agg #[.float .f64 t, .float .f64 r, .int .i64 i, .int .i64 j], .float .f64 p, .float .f64 c] w fun e w' => e = .returned (.float .f64 N) ∧ Below w.heap.size w w' := by
  have r1 := fun w : World => run_float_arith (P := Try.prog) w .sub 22 .f64 _ _ _ hA
  have r2 := fun w : World => run_float_arith (P := Try.prog) w .mul 22 .f64 _ _ _ hL
  have r3 := fun w : World => run_float_arith (P := Try.prog) w .add 22 .f64 _ _ _ hB
  have r4 := fun w : World => run_float_arith (P := Try.prog) w .mul 22 .f64 _ _ _ hH
  clear hA hL hB hH
  go_enter Try.func5, Try.ntmps5
  go_wp2
  go_ret
  exact ⟨rfl, (Below.refl _ _).alloc (Nat.le_refl _) _⟩

set_option maxHeartbeats 400000 in
theorem rate_nan (t r p c A L B H : Nat) (i j : Int) (w : World) (ht : FloatKind.f64.format.order t 4607182418800017408 = some .lt)
    (hA : floatBits .sub .f64 4607182418800017408 t = some A) (hL : floatBits .mul .f64 A c = some L) (hB : floatBits .add .f64 4607182418800017408 t = some B) (hH : floatBits .mul .f64 B c = some H)
    (f g : World → Nat → Nat) (hM : ∀ w, (Builtin.max_ #[22, 22] 22 #[.float .f64 p, .float .f64 L]).run Try.prog w = .ok (.float .f64 (f w p)) w.drew) (hN : ∀ w v, (Builtin.min_ #[22, 22] 22 #[.float .f64 (f v p), .float .f64 H]).run Try.prog w = .ok (.float .f64 (g w (f v p))) w.drew) :
    Calls Try.prog 5 #[.agg #[.float .f64 t, .float .f64 r, .int .i64 i, .int .i64 j], .float .f64 p, .float .f64 c] w fun e w' => (∃ u v, e = .returned (.float .f64 (g u (f v p)))) ∧ Below w.heap.size w w' := by
  have r1 := fun w : World => run_float_arith (P := Try.prog) w .sub 22 .f64 _ _ _ hA
  have r2 := fun w : World => run_float_arith (P := Try.prog) w .mul 22 .f64 _ _ _ hL
  have r3 := fun w : World => run_float_arith (P := Try.prog) w .add 22 .f64 _ _ _ hB
  have r4 := fun w : World => run_float_arith (P := Try.prog) w .mul 22 .f64 _ _ _ hH
  clear hA hL hB hH
  go_enter Try.func5, Try.ntmps5
  go_wp2
  go_ret
  exact ⟨⟨_, _, rfl⟩, (((Below.refl _ _).alloc (Nat.le_refl _) _).drew).drew⟩

/-- HASHRATE's CONTRACT. -/
theorem rate_any {K : Nat} (hK : K = 1074) (t r p c : Nat) (i j : Int) (w : World) (h0 : 0 ≤ key t) (htn : rung t ≤ INF) (hc : rung t < ONE → 0 ≤ key c ∧ rung c ≤ INF) :
    Calls Try.prog 5 #[.agg #[.float .f64 t, .float .f64 r, .int .i64 i, .int .i64 j], .float .f64 p, .float .f64 c] w fun e w' => ∃ q, e = .returned (.float .f64 q) ∧ RateIs K t p c q ∧ Below w.heap.size w w' := by
  have ho : FloatKind.f64.format.order t 4607182418800017408 = some (compare (key t) (key ONE)) := order_key t ONE htn (Nat.le_of_lt ONE_lt)
  have hk := (nonneg h0).1
  rw [ONE_key, hk] at ho
  by_cases h1 : rung t < ONE
  · rw [cmp_lt (by omega)] at ho
    obtain ⟨hc0, hcn⟩ := hc h1
    obtain ⟨A, L, B, H, hA, hL, hB, hH, hLn, hHn, hLk, hHk⟩ := band hK h0 h1 hc0 hcn
    by_cases hp : rung p ≤ INF
    · obtain ⟨hM1, hM2⟩ := fmax_key hp hLn
      obtain ⟨hN1, hN2⟩ := fmin_key hM1 hHn
      refine (rate_band t r p c A L B H (fmax p L) (fmin (fmax p L) H) i j w ho hA hL hB hH (run_max_num p L hp hLn) (run_min_num _ H hM1 hHn)).mono ?_
      rintro e w' ⟨rfl, hb⟩
      refine ⟨_, rfl, ⟨fun h => by omega, fun _ => ⟨hN1, ?_⟩⟩, hb⟩
      rw [hN2, hM2, hLk, hHk]
      unfold rateKey
      rw [if_neg (by omega)]
    · have hp' : INF < rung p := by omega
      refine (rate_nan t r p c A L B H i j w ho hA hL hB hH (fun w p => nanAt (.nanMinMax .f64 true p L) w) (fun w p => nanAt (.nanMinMax .f64 false p H) w) (run_max_nan p L hp') (fun w v => run_min_nan _ H (nanAt_nan _ _ _ _) w)).mono ?_
      rintro e w' ⟨⟨u, v, rfl⟩, hb⟩
      exact ⟨_, rfl, ⟨fun _ => nanAt_nan _ _ _ _, fun h => absurd h hp⟩, hb⟩
  · refine (rate_full t r p c i j w ?_).mono ?_
    · rw [ho]
      rcases (show ONE < rung t ∨ rung t = ONE by omega) with h | h
      · rw [cmp_gt (by omega)]; exact .inl rfl
      · rw [h]; exact .inr rfl
    · rintro e w' ⟨rfl, hb⟩
      refine ⟨_, rfl, ⟨fun h => h, fun h => ⟨h, ?_⟩⟩, hb⟩
      unfold rateKey
      rw [if_pos (by omega)]

end Go.Proofs.Qxb6601171a
