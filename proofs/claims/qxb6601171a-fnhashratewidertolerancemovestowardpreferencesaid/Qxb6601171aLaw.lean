/-
  FnHashRateWiderToleranceMovesTowardPreference: the walk.
-/
import Derived.Test.Qxb6601171aHash
import Derived.OpenShut
import Derived.ShutString
import Derived.ChangeOld
namespace Go.Proofs.Qxb6601171a
open Go.ChangeShapes Go.WideShapes Go.ChangeAt Go.RowKit
set_option linter.unusedVariables false

theorem run_store_float (P : Program) (w : World) (a : Addr) (m : Mode) (k : FloatKind) (b : Nat) : (store a (.float k b) m).run P w = stored P w a (.float k b) m := run_store P w a _ m rfl
attribute [local go_sem] run_store_float

theorem cell_last (w : World) (o : Obj) (x0 x1 x2 x3 : Value) (t : TypeId) (k : Nat) : ((w.alloc o).alloc (.cells #[x0, x1, x2, x3] t)).cell? ⟨w.heap.size + 1, k, none⟩ = #[x0, x1, x2, x3][k]? := cell_of_row _ _ _ _ _ (0, 0) (heap_alloc2_new w o _)
theorem below_two {w w1 : World} {o o' : Obj} (h : Below ((w.alloc o).alloc o').heap.size ((w.alloc o).alloc o') w1) : Below w.heap.size w w1 :=
  (((Below.refl _ w).alloc (Nat.le_refl _) o).alloc (by simp) o').trans (h.mono (by simp; omega))

/-- How the law's last tests can come out, given what HashRate has answered. -/
def Ways (p q1 q2 : Nat) : Prop :=
  ((FloatKind.f64.format.order p p != some .eq) = true ∧ (FloatKind.f64.format.order q1 q1 != some .eq) = true ∧ (FloatKind.f64.format.order q2 q2 != some .eq) = true) ∨
  ((FloatKind.f64.format.order p p != some .eq) = false ∧ (FloatKind.f64.format.order p q2 == some .lt || FloatKind.f64.format.order p q2 == some .eq) = true ∧ (FloatKind.f64.format.order q2 q1 == some .lt || FloatKind.f64.format.order q2 q1 == some .eq) = true) ∨
  ((FloatKind.f64.format.order p p != some .eq) = false ∧ (FloatKind.f64.format.order p q2 == some .lt || FloatKind.f64.format.order p q2 == some .eq) = false ∧ (FloatKind.f64.format.order q1 q2 == some .lt || FloatKind.f64.format.order q1 q2 == some .eq) = true ∧ (FloatKind.f64.format.order q2 p == some .lt || FloatKind.f64.format.order q2 p == some .eq) = true) ∨
  ((FloatKind.f64.format.order p p != some .eq) = false ∧ (FloatKind.f64.format.order p q2 == some .lt || FloatKind.f64.format.order p q2 == some .eq) = true ∧ (FloatKind.f64.format.order q2 q1 == some .lt || FloatKind.f64.format.order q2 q1 == some .eq) = false ∧ (FloatKind.f64.format.order q1 q2 == some .lt || FloatKind.f64.format.order q1 q2 == some .eq) = true ∧ (FloatKind.f64.format.order q2 p == some .lt || FloatKind.f64.format.order q2 p == some .eq) = true)

theorem le_key {x y : Nat} (hx : rung x ≤ INF) (hy : rung y ≤ INF) : (FloatKind.f64.format.order x y == some .lt || FloatKind.f64.format.order x y == some .eq) = decide (key x ≤ key y) := by
  have ho : FloatKind.f64.format.order x y = some (compare (key x) (key y)) := order_key x y hx hy
  rw [ho]
  rcases (show key x < key y ∨ key y < key x ∨ key x = key y by omega) with h | h | h
  · rw [cmp_lt h, decide_eq_true (by omega)]; rfl
  · rw [cmp_gt h, decide_eq_false (by omega)]; rfl
  · have : compare (key x) (key y) = .eq := by rw [h]; show compareOfLessAndEq _ _ = _; simp [compareOfLessAndEq]
    rw [this, decide_eq_true (by omega)]; rfl
theorem ge_key {x y : Nat} (hx : rung x ≤ INF) (hy : rung y ≤ INF) : (FloatKind.f64.format.order x y == some .gt || FloatKind.f64.format.order x y == some .eq) = decide (key y ≤ key x) := by
  have ho : FloatKind.f64.format.order x y = some (compare (key x) (key y)) := order_key x y hx hy
  rw [ho]
  rcases (show key x < key y ∨ key y < key x ∨ key x = key y by omega) with h | h | h
  · rw [cmp_lt h, decide_eq_false (by omega)]; rfl
  · rw [cmp_gt h, decide_eq_true (by omega)]; rfl
  · have : compare (key x) (key y) = .eq := by rw [h]; show compareOfLessAndEq _ _ = _; simp [compareOfLessAndEq]
    rw [this, decide_eq_true (by omega)]; rfl
theorem gt_key {x y : Nat} (hx : rung x ≤ INF) (hy : rung y ≤ INF) : (FloatKind.f64.format.order x y == some .gt) = decide (key y < key x) := by
  have ho : FloatKind.f64.format.order x y = some (compare (key x) (key y)) := order_key x y hx hy
  rw [ho]
  rcases (show key x < key y ∨ key y < key x ∨ key x = key y by omega) with h | h | h
  · rw [cmp_lt h, decide_eq_false (by omega)]; rfl
  · rw [cmp_gt h, decide_eq_true (by omega)]; rfl
  · have : compare (key x) (key y) = .eq := by rw [h]; show compareOfLessAndEq _ _ = _; simp [compareOfLessAndEq]
    rw [this, decide_eq_false (by omega)]; rfl
theorem lt_key {x y : Nat} (hx : rung x ≤ INF) (hy : rung y ≤ INF) : (FloatKind.f64.format.order x y == some .lt) = decide (key x < key y) := by
  have ho : FloatKind.f64.format.order x y = some (compare (key x) (key y)) := order_key x y hx hy
  rw [ho]
  rcases (show key x < key y ∨ key y < key x ∨ key x = key y by omega) with h | h | h
  · rw [cmp_lt h, decide_eq_true (by omega)]; rfl
  · rw [cmp_gt h, decide_eq_false (by omega)]; rfl
  · have : compare (key x) (key y) = .eq := by rw [h]; show compareOfLessAndEq _ _ = _; simp [compareOfLessAndEq]
    rw [this, decide_eq_false (by omega)]; rfl
theorem self_num {x : Nat} (hx : rung x ≤ INF) : (FloatKind.f64.format.order x x != some .eq) = false := by
  have ho : FloatKind.f64.format.order x x = some (compare (key x) (key x)) := order_key x x hx hx
  have : compare (key x) (key x) = .eq := by show compareOfLessAndEq _ _ = _; simp [compareOfLessAndEq]
  rw [ho, this]; rfl
theorem self_nan {x : Nat} (hx : INF < rung x) : (FloatKind.f64.format.order x x != some .eq) = true := by
  have ho : FloatKind.f64.format.order x x = none := order_nan_left x x hx
  rw [ho]; rfl
theorem nan_ge {x y : Nat} (hx : INF < rung x) : (FloatKind.f64.format.order x y == some .gt || FloatKind.f64.format.order x y == some .eq) = false := by
  have ho : FloatKind.f64.format.order x y = none := order_nan_left x y hx
  rw [ho]; rfl

/-- From the plain law to the tests. -/
theorem ways_of {K : Nat} (hK : K = 1074) {lo hi p c : Nat} (h : rung lo ≤ rung hi) (hc : rung c ≤ INF ∨ ONE ≤ rung lo) (q1 q2 : Nat) (R1 : RateIs K lo p c q1) (R2 : RateIs K hi p c q2) : Ways p q1 q2 := by
  by_cases hp : rung p ≤ INF
  · obtain ⟨n1, k1⟩ := R1.2 hp
    obtain ⟨n2, k2⟩ := R2.2 hp
    have T : (key p ≤ key q2 ∧ key q2 ≤ key q1) ∨ (key q1 ≤ key q2 ∧ key q2 ≤ key p) := by
      rw [k1, k2]
      rcases hc with hc | hc
      · exact toward hK h hc (key p)
      · unfold rateKey
        rw [if_pos hc, if_pos (by omega)]
        omega
    unfold Ways
    rw [le_key hp n2, le_key n2 n1, le_key n1 n2, le_key n2 hp, self_num hp]
    by_cases a1 : key p ≤ key q2
    · by_cases a2 : key q2 ≤ key q1
      · exact .inr (.inl ⟨rfl, decide_eq_true a1, decide_eq_true a2⟩)
      · exact .inr (.inr (.inr ⟨rfl, decide_eq_true a1, decide_eq_false a2, decide_eq_true (by omega), decide_eq_true (by omega)⟩))
    · exact .inr (.inr (.inl ⟨rfl, decide_eq_false a1, decide_eq_true (by omega), decide_eq_true (by omega)⟩))
  · have hp' : INF < rung p := by omega
    exact .inl ⟨self_nan hp', self_nan (R1.1 hp'), self_nan (R2.1 hp')⟩

set_option maxHeartbeats 1000000 in
theorem early_one (t1 t2 r : Nat) (i j : Int) (p c : Nat) (w : World) (h : (FloatKind.f64.format.order t1 0 == some .gt || FloatKind.f64.format.order t1 0 == some .eq) = false) :
    Calls Try.prog 4 #[.float .f64 t1, .float .f64 t2, .float .f64 r, .int .i64 i, .int .i64 j, .float .f64 p, .float .f64 c] w fun e w' => e = .returned (.bool true) ∧ Below w.heap.size w w' := by
  go_enter Try.func4, Try.ntmps4
  go_wp2_with fail
  go_ret
  exact ⟨rfl, Below.refl _ _⟩
set_option maxHeartbeats 1000000 in
theorem early_two (t1 t2 r : Nat) (i j : Int) (p c : Nat) (w : World) (h1 : (FloatKind.f64.format.order t1 0 == some .gt || FloatKind.f64.format.order t1 0 == some .eq) = true) (h : (FloatKind.f64.format.order t2 0 == some .gt || FloatKind.f64.format.order t2 0 == some .eq) = false) :
    Calls Try.prog 4 #[.float .f64 t1, .float .f64 t2, .float .f64 r, .int .i64 i, .int .i64 j, .float .f64 p, .float .f64 c] w fun e w' => e = .returned (.bool true) ∧ Below w.heap.size w w' := by
  go_enter Try.func4, Try.ntmps4
  go_wp2_with fail
  go_ret
  exact ⟨rfl, Below.refl _ _⟩

set_option maxHeartbeats 1000000 in
theorem early_straight (lo hi r : Nat) (i j : Int) (p c : Nat) (w : World)
    (hlo : (FloatKind.f64.format.order lo 0 == some .gt || FloatKind.f64.format.order lo 0 == some .eq) = true) (hhi : (FloatKind.f64.format.order hi 0 == some .gt || FloatKind.f64.format.order hi 0 == some .eq) = true)
    (h12 : (FloatKind.f64.format.order lo hi == some .gt) = false)
    (hl : (FloatKind.f64.format.order lo 4607182418800017408 == some .lt) = true) (hc : (FloatKind.f64.format.order c 0 == some .gt || FloatKind.f64.format.order c 0 == some .eq) = false) :
    Calls Try.prog 4 #[.float .f64 lo, .float .f64 hi, .float .f64 r, .int .i64 i, .int .i64 j, .float .f64 p, .float .f64 c] w fun e w' => e = .returned (.bool true) ∧ Below w.heap.size w w' := by
  go_enter Try.func4, Try.ntmps4
  go_wp2_with fail
  go_ret
  exact ⟨rfl, Below.refl _ _⟩

set_option maxHeartbeats 1000000 in
theorem early_swapped (lo hi r : Nat) (i j : Int) (p c : Nat) (w : World)
    (hlo : (FloatKind.f64.format.order lo 0 == some .gt || FloatKind.f64.format.order lo 0 == some .eq) = true) (hhi : (FloatKind.f64.format.order hi 0 == some .gt || FloatKind.f64.format.order hi 0 == some .eq) = true)
    (h12 : (FloatKind.f64.format.order hi lo == some .gt) = true)
    (hl : (FloatKind.f64.format.order lo 4607182418800017408 == some .lt) = true) (hc : (FloatKind.f64.format.order c 0 == some .gt || FloatKind.f64.format.order c 0 == some .eq) = false) :
    Calls Try.prog 4 #[.float .f64 hi, .float .f64 lo, .float .f64 r, .int .i64 i, .int .i64 j, .float .f64 p, .float .f64 c] w fun e w' => e = .returned (.bool true) ∧ Below w.heap.size w w' := by
  go_enter Try.func4, Try.ntmps4
  go_wp2_with fail
  go_ret
  exact ⟨rfl, Below.refl _ _⟩

set_option maxHeartbeats 2000000 in
theorem main_straight {K : Nat} (hK : K = 1074) (lo hi r : Nat) (i j : Int) (p c : Nat) (w : World)
    (hlo : (FloatKind.f64.format.order lo 0 == some .gt || FloatKind.f64.format.order lo 0 == some .eq) = true) (hhi : (FloatKind.f64.format.order hi 0 == some .gt || FloatKind.f64.format.order hi 0 == some .eq) = true)
    (h12 : (FloatKind.f64.format.order lo hi == some .gt) = false)
    (hcc : (FloatKind.f64.format.order lo 4607182418800017408 == some .lt) = false ∨ ((FloatKind.f64.format.order lo 4607182418800017408 == some .lt) = true ∧ (FloatKind.f64.format.order c 0 == some .gt || FloatKind.f64.format.order c 0 == some .eq) = true))
    (H1 : Hid (∀ w, Calls Try.prog 5 #[.agg #[.float .f64 lo, .float .f64 r, .int .i64 i, .int .i64 j], .float .f64 p, .float .f64 c] w fun e w' => ∃ q, e = .returned (.float .f64 q) ∧ RateIs K lo p c q ∧ Below w.heap.size w w'))
    (H2 : Hid (∀ w, Calls Try.prog 5 #[.agg #[.float .f64 hi, .float .f64 r, .int .i64 i, .int .i64 j], .float .f64 p, .float .f64 c] w fun e w' => ∃ q, e = .returned (.float .f64 q) ∧ RateIs K hi p c q ∧ Below w.heap.size w w'))
    (HE : Hid (∀ q1 q2, RateIs K lo p c q1 → RateIs K hi p c q2 → Ways p q1 q2)) :
    Calls Try.prog 4 #[.float .f64 lo, .float .f64 hi, .float .f64 r, .int .i64 i, .int .i64 j, .float .f64 p, .float .f64 c] w fun e w' => e = .returned (.bool true) ∧ Below w.heap.size w w' := by
  rcases hcc with hl | ⟨hl, hc⟩
  all_goals
    go_enter Try.func4, Try.ntmps4
    go_wp2_with fail
    refine (H1.out _).mono ?_
    rintro e w1 ⟨q1, rfl, R1, b1⟩
    have c0 := b1.cell (p := ⟨w.heap.size + 1, 0, none⟩) (by simp)
    have c1 := b1.cell (p := ⟨w.heap.size + 1, 1, none⟩) (by simp)
    have c2 := b1.cell (p := ⟨w.heap.size + 1, 2, none⟩) (by simp)
    have c3 := b1.cell (p := ⟨w.heap.size + 1, 3, none⟩) (by simp)
    rw [cell_last] at c0 c1 c2 c3
    have bb1 := below_two b1
    have HB : Hid (Below w.heap.size w w1) := bb1
    clear b1 bb1 H1
    go_wp2_with fail
    refine (H2.out _).mono ?_
    rintro e w2 ⟨q2, rfl, R2, b2⟩
    have bb2 : Below w.heap.size w w2 := HB.out.trans (b2.mono HB.out.size)
    have W := HE.out q1 q2 R1 R2
    clear b2 HB H2 HE R1 R2 c0 c1 c2 c3 hlo hhi h12
    rcases W with ⟨e1, e2, e3⟩ | ⟨e1, e2, e3⟩ | ⟨e1, e2, e3, e4⟩ | ⟨e1, e2, e3, e4, e5⟩
    all_goals
      go_wp2_with fail
      go_ret
      exact ⟨rfl, bb2⟩

set_option maxHeartbeats 2000000 in
theorem main_swapped {K : Nat} (hK : K = 1074) (lo hi r : Nat) (i j : Int) (p c : Nat) (w : World)
    (hlo : (FloatKind.f64.format.order lo 0 == some .gt || FloatKind.f64.format.order lo 0 == some .eq) = true) (hhi : (FloatKind.f64.format.order hi 0 == some .gt || FloatKind.f64.format.order hi 0 == some .eq) = true)
    (h12 : (FloatKind.f64.format.order hi lo == some .gt) = true)
    (hcc : (FloatKind.f64.format.order lo 4607182418800017408 == some .lt) = false ∨ ((FloatKind.f64.format.order lo 4607182418800017408 == some .lt) = true ∧ (FloatKind.f64.format.order c 0 == some .gt || FloatKind.f64.format.order c 0 == some .eq) = true))
    (H1 : Hid (∀ w, Calls Try.prog 5 #[.agg #[.float .f64 lo, .float .f64 r, .int .i64 i, .int .i64 j], .float .f64 p, .float .f64 c] w fun e w' => ∃ q, e = .returned (.float .f64 q) ∧ RateIs K lo p c q ∧ Below w.heap.size w w'))
    (H2 : Hid (∀ w, Calls Try.prog 5 #[.agg #[.float .f64 hi, .float .f64 r, .int .i64 i, .int .i64 j], .float .f64 p, .float .f64 c] w fun e w' => ∃ q, e = .returned (.float .f64 q) ∧ RateIs K hi p c q ∧ Below w.heap.size w w'))
    (HE : Hid (∀ q1 q2, RateIs K lo p c q1 → RateIs K hi p c q2 → Ways p q1 q2)) :
    Calls Try.prog 4 #[.float .f64 hi, .float .f64 lo, .float .f64 r, .int .i64 i, .int .i64 j, .float .f64 p, .float .f64 c] w fun e w' => e = .returned (.bool true) ∧ Below w.heap.size w w' := by
  rcases hcc with hl | ⟨hl, hc⟩
  all_goals
    go_enter Try.func4, Try.ntmps4
    go_wp2_with fail
    refine (H1.out _).mono ?_
    rintro e w1 ⟨q1, rfl, R1, b1⟩
    have c0 := b1.cell (p := ⟨w.heap.size + 1, 0, none⟩) (by simp)
    have c1 := b1.cell (p := ⟨w.heap.size + 1, 1, none⟩) (by simp)
    have c2 := b1.cell (p := ⟨w.heap.size + 1, 2, none⟩) (by simp)
    have c3 := b1.cell (p := ⟨w.heap.size + 1, 3, none⟩) (by simp)
    rw [cell_last] at c0 c1 c2 c3
    have bb1 := below_two b1
    have HB : Hid (Below w.heap.size w w1) := bb1
    clear b1 bb1 H1
    go_wp2_with fail
    refine (H2.out _).mono ?_
    rintro e w2 ⟨q2, rfl, R2, b2⟩
    have bb2 : Below w.heap.size w w2 := HB.out.trans (b2.mono HB.out.size)
    have W := HE.out q1 q2 R1 R2
    clear b2 HB H2 HE R1 R2 c0 c1 c2 c3 hlo hhi h12
    rcases W with ⟨e1, e2, e3⟩ | ⟨e1, e2, e3⟩ | ⟨e1, e2, e3, e4⟩ | ⟨e1, e2, e3, e4, e5⟩
    all_goals
      go_wp2_with fail
      go_ret
      exact ⟨rfl, bb2⟩

theorem walk (t1 t2 r : Nat) (i j : Int) (p c : Nat) (w : World) :
    Calls Try.prog 4 #[.float .f64 t1, .float .f64 t2, .float .f64 r, .int .i64 i, .int .i64 j, .float .f64 p, .float .f64 c] w fun e w' => e = .returned (.bool true) ∧ Below w.heap.size w w' := by
  obtain ⟨K, hK⟩ : ∃ K : Nat, K = 1074 := ⟨_, rfl⟩
  by_cases g1 : rung t1 ≤ INF
  case neg => exact early_one t1 t2 r i j p c w (nan_ge (by omega))
  have z0 : rung 0 ≤ INF := Nat.zero_le _
  have k0 : key 0 = 0 := rfl
  by_cases p1 : 0 ≤ key t1
  case neg => exact early_one t1 t2 r i j p c w (by rw [ge_key g1 z0, k0]; exact decide_eq_false p1)
  have e1 : (FloatKind.f64.format.order t1 0 == some .gt || FloatKind.f64.format.order t1 0 == some .eq) = true := by rw [ge_key g1 z0, k0]; exact decide_eq_true p1
  by_cases g2 : rung t2 ≤ INF
  case neg => exact early_two t1 t2 r i j p c w e1 (nan_ge (by omega))
  by_cases p2 : 0 ≤ key t2
  case neg => exact early_two t1 t2 r i j p c w e1 (by rw [ge_key g2 z0, k0]; exact decide_eq_false p2)
  have e2 : (FloatKind.f64.format.order t2 0 == some .gt || FloatKind.f64.format.order t2 0 == some .eq) = true := by rw [ge_key g2 z0, k0]; exact decide_eq_true p2
  have n1 := (nonneg p1).1
  have n2 := (nonneg p2).1
  have oi : rung ONE ≤ INF := Nat.le_of_lt ONE_lt
  -- the rest, once the lesser and the greater are told apart
  have rest : ∀ lo hi : Nat, rung lo ≤ INF → 0 ≤ key lo → rung hi ≤ INF → 0 ≤ key hi → rung lo ≤ rung hi →
      (∀ hl : (FloatKind.f64.format.order lo 4607182418800017408 == some .lt) = true, (FloatKind.f64.format.order c 0 == some .gt || FloatKind.f64.format.order c 0 == some .eq) = false → Calls Try.prog 4 #[.float .f64 t1, .float .f64 t2, .float .f64 r, .int .i64 i, .int .i64 j, .float .f64 p, .float .f64 c] w fun e w' => e = .returned (.bool true) ∧ Below w.heap.size w w') →
      (((FloatKind.f64.format.order lo 4607182418800017408 == some .lt) = false ∨ ((FloatKind.f64.format.order lo 4607182418800017408 == some .lt) = true ∧ (FloatKind.f64.format.order c 0 == some .gt || FloatKind.f64.format.order c 0 == some .eq) = true)) →
        (∀ w, Calls Try.prog 5 #[.agg #[.float .f64 lo, .float .f64 r, .int .i64 i, .int .i64 j], .float .f64 p, .float .f64 c] w fun e w' => ∃ q, e = .returned (.float .f64 q) ∧ RateIs K lo p c q ∧ Below w.heap.size w w') →
        (∀ w, Calls Try.prog 5 #[.agg #[.float .f64 hi, .float .f64 r, .int .i64 i, .int .i64 j], .float .f64 p, .float .f64 c] w fun e w' => ∃ q, e = .returned (.float .f64 q) ∧ RateIs K hi p c q ∧ Below w.heap.size w w') →
        (∀ q1 q2, RateIs K lo p c q1 → RateIs K hi p c q2 → Ways p q1 q2) → Calls Try.prog 4 #[.float .f64 t1, .float .f64 t2, .float .f64 r, .int .i64 i, .int .i64 j, .float .f64 p, .float .f64 c] w fun e w' => e = .returned (.bool true) ∧ Below w.heap.size w w') →
      Calls Try.prog 4 #[.float .f64 t1, .float .f64 t2, .float .f64 r, .int .i64 i, .int .i64 j, .float .f64 p, .float .f64 c] w fun e w' => e = .returned (.bool true) ∧ Below w.heap.size w w' := by
    intro lo hi gl pl gh ph hle early main
    have nl := (nonneg pl).1
    have hlt : (FloatKind.f64.format.order lo 4607182418800017408 == some .lt) = decide (key lo < key ONE) := lt_key gl oi
    by_cases l1 : rung lo < ONE
    · have hl : (FloatKind.f64.format.order lo 4607182418800017408 == some .lt) = true := by rw [hlt, ONE_key, nl]; exact decide_eq_true (by omega)
      by_cases gc : rung c ≤ INF
      case neg => exact early hl (nan_ge (by omega))
      by_cases pc : 0 ≤ key c
      case neg => exact early hl (by rw [ge_key gc z0, k0]; exact decide_eq_false pc)
      exact main (.inr ⟨hl, by rw [ge_key gc z0, k0]; exact decide_eq_true pc⟩) (fun w => rate_any hK lo r p c i j w pl gl fun _ => ⟨pc, gc⟩) (fun w => rate_any hK hi r p c i j w ph gh fun _ => ⟨pc, gc⟩) (ways_of hK hle (.inl gc))
    · have hl : (FloatKind.f64.format.order lo 4607182418800017408 == some .lt) = false := by rw [hlt, ONE_key, nl]; exact decide_eq_false (by omega)
      exact main (.inl hl) (fun w => rate_any hK lo r p c i j w pl gl fun h => absurd h l1) (fun w => rate_any hK hi r p c i j w ph gh fun h => absurd h (by omega)) (ways_of hK hle (.inr (by omega)))
  by_cases hs : key t2 < key t1
  · have h12 : (FloatKind.f64.format.order t1 t2 == some .gt) = true := by rw [gt_key g1 g2]; exact decide_eq_true hs
    exact rest t2 t1 g2 p2 g1 p1 (by omega) (fun hl hc => early_swapped t2 t1 r i j p c w e2 e1 h12 hl hc) (fun hcc H1 H2 HE => main_swapped hK t2 t1 r i j p c w e2 e1 h12 hcc H1 H2 HE)
  · have h12 : (FloatKind.f64.format.order t1 t2 == some .gt) = false := by rw [gt_key g1 g2]; exact decide_eq_false hs
    exact rest t1 t2 g1 p1 g2 p2 (by omega) (fun hl hc => early_straight t1 t2 r i j p c w e1 e2 h12 hl hc) (fun hcc H1 H2 HE => main_straight hK t1 t2 r i j p c w e1 e2 h12 hcc H1 H2 HE)

end Go.Proofs.Qxb6601171a
