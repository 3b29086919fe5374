/-
  The Reader over a buffer that the law owns: alive at an offset ('Live'), or failed ('Dead'); and the contracts of its functions in these words.
-/
import Derived.Test.Qxb6600122aClone
namespace Go.Proofs.Qxb6600122a
open Go.ChangeShapes Go.WideShapes Go.ChangeAt Go.RowKit
set_option linter.unusedVariables false

/-- w0: the world in which the law began; w: now; R: the Reader's block; the buffer is the slice (av, n, cap) with the bytes zs; the Reader holds (a, l, c) and the mark f. -/
structure St (w0 w : World) (R : Nat) (av : Option Addr) (n cap : Nat) (zs : List Int) (a : Option Addr) (l c : Nat) (f : Bool) : Prop where
  rd : Rd w R a l c f
  own : w.ownsRow 0 5 1 (.slice av n cap) n (zs.map (Value.int .u8))
  apart : (Value.slice av n cap).ownBlock ≠ some R
  hi : w0.heap.size ≤ R
  bel : Below w0.heap.size w0 w

theorem St.next {w0 w w' : World} {R : Nat} {av : Option Addr} {n cap : Nat} {zs : List Int} {a a' : Option Addr} {l c l' c' : Nat} {f f' : Bool} (h : St w0 w R av n cap zs a l c f) (hr : Rd w' R a' l' c' f') (hg : w.grownBy w' (some R)) : St w0 w' R av n cap zs a' l' c' f' :=
  ⟨hr, h.own.kept hg (.inr h.apart), h.apart, h.hi, h.bel.grown hg h.bel.size (fun k e => by cases e; exact h.hi)⟩

/-- What is owned from B on is owned from every smaller number on. -/
theorem own_base {w : World} {B B' e size : Nat} {v : Value} {n : Nat} {xs : List Value} (h : w.ownsRow B e size v n xs) (hB : B' ≤ B) : w.ownsRow B' e size v n xs := by
  refine ⟨h.1, ?_⟩
  rcases h.2 with h' | ⟨g, cap, cur, h1, h2, r⟩
  · exact .inl h'
  · exact .inr ⟨g, cap, cur, h1, by omega, r⟩
theorem own_shape {w : World} {base e : Nat} {a : Option Addr} {n c : Nat} {xs : List Value} (h : w.ownsRow base e 1 (.slice a n c) n xs) : (a = none ∧ n = 0 ∧ c = 0) ∨ ∃ g, a = some ⟨g, 0, none⟩ ∧ base ≤ g ∧ g < w.heap.size ∧ n ≤ c ∧ c ≤ maxLen := by
  rcases h.2 with ⟨h', h0⟩ | ⟨g, cap, cur, h', hb, hg, hnc, hcm, _⟩
  · simp only [Value.slice.injEq] at h'
    exact .inl h'
  · simp only [Value.slice.injEq] at h'
    obtain ⟨rfl, _, rfl⟩ := h'
    exact .inr ⟨g, rfl, hb, lt_of_block hg, hnc, hcm⟩
theorem own_split {w : World} {base e : Nat} {a : Option Addr} {n c : Nat} {xs : List Value} (h : w.ownsRow base e 1 (.slice a n c) n xs) (hn : 0 < n) : ∃ g, a = some ⟨g, 0, none⟩ ∧ base ≤ g ∧ g < w.heap.size := by
  rcases own_shape h with ⟨_, h, _⟩ | ⟨g, h1, h2, h3, _⟩
  · omega
  · exact ⟨g, h1, h2, h3⟩
theorem own_bounds {w : World} {base e : Nat} {a : Option Addr} {n c : Nat} {xs : List Value} (h : w.ownsRow base e 1 (.slice a n c) n xs) : n ≤ c ∧ c ≤ maxLen := by
  rcases own_shape h with ⟨_, rfl, rfl⟩ | ⟨g, _, _, _, h1, h2⟩
  · exact ⟨Nat.le_refl _, by unfold maxLen; omega⟩
  · exact ⟨h1, h2⟩
theorem own_bool {w : World} {base e : Nat} {g n c : Nat} {zs : List Bool} (h : w.ownsRow base e 1 (.slice (some ⟨g, 0, none⟩) n c) n (zs.map Value.bool)) (j : Nat) (hj : j < n) : w.cell? ⟨g, j, none⟩ = some (.bool (zs.getD j false)) := by
  have hl : zs.length = n := by simpa using h.1
  rw [h.cellAt j (by omega)]
  simp [List.getD, show j < zs.length by omega]
theorem own_int {w : World} {base e : Nat} {g n c : Nat} {k : IntKind} {zs : List Int} (h : w.ownsRow base e 1 (.slice (some ⟨g, 0, none⟩) n c) n (zs.map (Value.int k))) (j : Nat) (hj : j < n) : w.cell? ⟨g, j, none⟩ = some (.int k (zs.getD j 0)) := by
  have hl : zs.length = n := by simpa using h.1
  rw [h.cellAt j (by omega)]
  simp [List.getD, show j < zs.length by omega]

/-- The Reader is alive and stands at offset k. -/
def Live (w0 w : World) (R : Nat) (av : Option Addr) (n cap : Nat) (zs : List Int) (k : Nat) : Prop :=
  k ≤ n ∧ ∃ a, St w0 w R av n cap zs a (n - k) (cap - k) false ∧ ∀ g, av = some ⟨g, 0, none⟩ → k < n → a = some ⟨g, k, none⟩

/-- The Reader has failed. -/
def Dead (w0 w : World) (R : Nat) (av : Option Addr) (n cap : Nat) (zs : List Int) : Prop := St w0 w R av n cap zs none 0 0 true

section
variable {w0 w : World} {R : Nat} {av : Option Addr} {n cap : Nat} {zs : List Int}

theorem Live.bounds {k : Nat} (h : Live w0 w R av n cap zs k) : n ≤ cap ∧ cap ≤ maxLen := by obtain ⟨_, a, s, _⟩ := h; exact own_bounds s.own
theorem Live.bel {k : Nat} (h : Live w0 w R av n cap zs k) : Below w0.heap.size w0 w := by obtain ⟨_, a, s, _⟩ := h; exact s.bel
theorem Live.own {k : Nat} (h : Live w0 w R av n cap zs k) : w.ownsRow 0 5 1 (.slice av n cap) n (zs.map (Value.int .u8)) := by obtain ⟨_, a, s, _⟩ := h; exact s.own
theorem Live.cell {k : Nat} {g : Nat} (h : Live w0 w R (some ⟨g, 0, none⟩) n cap zs k) (j : Nat) (hj : j < n) : w.cell? ⟨g, j, none⟩ = some (.int .u8 (zs.getD j 0)) := own_int h.own j hj

theorem live_new {B : Nat} (hown : w.ownsRow B 5 1 (.slice av n cap) n (zs.map (Value.int .u8))) (hbel : Below w0.heap.size w0 w) :
    Calls Try.prog 13 #[.slice av n cap] w fun e w' => ∃ R, e = .returned (.pointer (some ⟨R, 0, none⟩)) ∧ Live w0 w' R av n cap zs 0 := by
  refine (new_any w av n cap).mono ?_
  rintro e w' ⟨rfl, rfl⟩
  refine ⟨_, rfl, Nat.zero_le _, av, ⟨Rd.new _ _ _ _ _, (own_base hown (Nat.zero_le _)).alloc _, fun h => ?_, hbel.size, hbel.alloc hbel.size _⟩, fun g hg _ => hg⟩
  have := (hown.lt _ h).2
  omega

theorem live_failed {k : Nat} (h : Live w0 w R av n cap zs k) : Calls Try.prog 15 #[.pointer (some ⟨R, 0, none⟩)] w fun e w' => e = .returned (.bool false) ∧ w = w' := by
  obtain ⟨_, a, s, _⟩ := h; exact failed_any s.rd
theorem dead_failed (h : Dead w0 w R av n cap zs) : Calls Try.prog 15 #[.pointer (some ⟨R, 0, none⟩)] w fun e w' => e = .returned (.bool true) ∧ w = w' := failed_any h.rd
theorem live_rest {k : Nat} (h : Live w0 w R av n cap zs k) : Calls Try.prog 18 #[.pointer (some ⟨R, 0, none⟩)] w fun e w' => ∃ a, e = .returned (.slice a (n - k) (cap - k)) ∧ (∀ g, av = some ⟨g, 0, none⟩ → k < n → a = some ⟨g, k, none⟩) ∧ w = w' := by
  obtain ⟨_, a, s, ha⟩ := h
  exact (rest_any s.rd).mono fun e w' ⟨h1, h2⟩ => ⟨a, h1, ha, h2⟩
theorem dead_rest (h : Dead w0 w R av n cap zs) : Calls Try.prog 18 #[.pointer (some ⟨R, 0, none⟩)] w fun e w' => e = .returned (.slice none 0 0) ∧ w = w' := rest_any h.rd

theorem live_take {k : Nat} (h : Live w0 w R av n cap zs k) (m : Nat) (hm : m ≤ n - k) :
    Calls Try.prog 14 #[.pointer (some ⟨R, 0, none⟩), .int .i64 m] w fun e w' => ∃ a, e = .returned (.slice a m m) ∧ (∀ g, av = some ⟨g, 0, none⟩ → k < n → a = some ⟨g, k, none⟩) ∧ Live w0 w' R av n cap zs (k + m) := by
  obtain ⟨hk, a, s, ha⟩ := h
  have hb := own_bounds s.own
  refine (zztake_ok s.rd m (by omega) (by omega) hm).mono ?_
  rintro e w' ⟨rfl, a', ha', hr, hg⟩
  refine ⟨a, rfl, ha, by omega, a', by rw [show n - (k + m) = n - k - m by omega, show cap - (k + m) = cap - k - m by omega]; exact s.next hr hg, fun g hg' hlt => ?_⟩
  rw [ha' (by omega), ha g hg' (by omega)]
  simp [Addr.add]
theorem live_take_bad {k : Nat} (h : Live w0 w R av n cap zs k) (m : Int) (hm : m < 0 ∨ ((n - k : Nat) : Int) < m) :
    Calls Try.prog 14 #[.pointer (some ⟨R, 0, none⟩), .int .i64 m] w fun e w' => e = .returned (.slice none 0 0) ∧ Dead w0 w' R av n cap zs := by
  obtain ⟨hk, a, s, ha⟩ := h
  have hb := own_bounds s.own
  exact (zztake_bad s.rd m (by omega) (by omega) (.inr hm)).mono fun e w' ⟨h1, hr, hg⟩ => ⟨h1, s.next hr hg⟩
theorem dead_take (h : Dead w0 w R av n cap zs) (m : Int) :
    Calls Try.prog 14 #[.pointer (some ⟨R, 0, none⟩), .int .i64 m] w fun e w' => e = .returned (.slice none 0 0) ∧ Dead w0 w' R av n cap zs :=
  (zztake_bad h.rd m (Nat.le_refl _) (by unfold maxLen; omega) (.inl rfl)).mono fun e w' ⟨h1, hr, hg⟩ => ⟨h1, h.next hr hg⟩
theorem live_byte {k : Nat} (h : Live w0 w R av n cap zs k) (hlt : k < n) :
    Calls Try.prog 17 #[.pointer (some ⟨R, 0, none⟩)] w fun e w' => e = .returned (.int .u8 (zs.getD k 0)) ∧ Live w0 w' R av n cap zs (k + 1) := by
  obtain ⟨hk, a, s, ha⟩ := h
  have hb := own_bounds s.own
  obtain ⟨g, rfl, h1, h2⟩ := own_split s.own (by omega)
  obtain rfl := ha g rfl hlt
  refine (byte_ok s.rd (by omega) (by omega) (by omega) _ (own_int s.own k hlt) (fun e => s.apart (by simp [Value.ownBlock, e]))).mono ?_
  rintro e w' ⟨rfl, a', ha', hr, hg⟩
  refine ⟨rfl, by omega, a', by rw [show n - (k + 1) = n - k - 1 by omega, show cap - (k + 1) = cap - k - 1 by omega]; exact s.next hr hg, fun g' hg' hlt' => ?_⟩
  simp only [Option.some.injEq, Addr.mk.injEq, and_true] at hg'
  rw [ha' (by omega), hg']
theorem live_byte_end (h : Live w0 w R av n cap zs n) :
    Calls Try.prog 17 #[.pointer (some ⟨R, 0, none⟩)] w fun e w' => e = .returned (.int .u8 0) ∧ Dead w0 w' R av n cap zs := by
  obtain ⟨hk, a, s, ha⟩ := h
  have hb := own_bounds s.own
  exact (byte_bad s.rd (by omega) (by omega) (.inr (by omega))).mono fun e w' ⟨h1, hr, hg⟩ => ⟨h1, s.next hr hg⟩
theorem dead_byte (h : Dead w0 w R av n cap zs) :
    Calls Try.prog 17 #[.pointer (some ⟨R, 0, none⟩)] w fun e w' => e = .returned (.int .u8 0) ∧ Dead w0 w' R av n cap zs :=
  (byte_bad h.rd (Nat.le_refl _) (by unfold maxLen; omega) (.inl rfl)).mono fun e w' ⟨h1, hr, hg⟩ => ⟨h1, h.next hr hg⟩
end

theorem grownBy_none_all {w w' : World} (h : w.grownBy w' none) (row : Option Nat) : w.grownBy w' row := ⟨h.os, h.tape, h.output, h.size, fun k hk _ => h.block k hk (by simp)⟩

theorem St.grown {w0 w w' : World} {R : Nat} {av : Option Addr} {n cap : Nat} {zs : List Int} {a : Option Addr} {l c : Nat} {f : Bool} (h : St w0 w R av n cap zs a l c f) (hg : w.grownBy w' none) : St w0 w' R av n cap zs a l c f :=
  h.next (by unfold Rd; rw [hg.block R h.rd.lt (by simp)]; exact h.rd) (grownBy_none_all hg _)
theorem Live.grown {w0 w w' : World} {R : Nat} {av : Option Addr} {n cap : Nat} {zs : List Int} {k : Nat} (h : Live w0 w R av n cap zs k) (hg : w.grownBy w' none) : Live w0 w' R av n cap zs k := by
  obtain ⟨hk, a, s, ha⟩ := h
  exact ⟨hk, a, s.grown hg, ha⟩
theorem own_value {w : World} {base e : Nat} {v : Value} {n : Nat} {xs : List Value} (h : w.ownsRow base e 1 v n xs) (hn : 0 < n) : ∃ g c, v = .slice (some ⟨g, 0, none⟩) n c ∧ base ≤ g ∧ g < w.heap.size ∧ n ≤ c ∧ c ≤ maxLen := by
  rcases h.2 with ⟨h', h0⟩ | ⟨g, cap, cur, h', hb, hg, hnc, hcm, _⟩
  · omega
  · exact ⟨g, cap, h', hb, lt_of_block hg, hnc, hcm⟩

theorem row_len {k : IntKind} {w : World} {a : Option Addr} {len cap : Nat} {zs : List Int} (h : IsRow k w a len cap zs) : len ≤ maxLen ∧ (zs.take len).length = len := by
  rcases h with ⟨_, rfl, _, rfl⟩ | ⟨x, _, h, h', h'', _⟩
  · exact ⟨by unfold maxLen; omega, rfl⟩
  · exact ⟨by omega, by simp; omega⟩

end Go.Proofs.Qxb6600122a
