/-
  Contracts of the Reader's functions (seat b6600122a): ZZNewReader (13), ZZTake (14), ZZFailed (15), Byte (17), ZZRest (18), take (27), fail (28). Each over 'Rd': what the Reader's block holds; each leaves 'grownBy (some R)': only that block has turned.
-/
import Derived.Test.Qxb6600122aRows
import Derived.WalkKit
import Derived.ProofKit
import Derived.Below
import Derived.WalkSpells
import Derived.Lib.SliceRun
namespace Go.Proofs.Qxb6600122a
open Go.ChangeShapes Go.WideShapes Go.ChangeAt Go.RowKit
set_option linter.unusedVariables false

/-- The Reader at block R holds this slice and this mark. -/
def Rd (w : World) (R : Nat) (a : Option Addr) (l c : Nat) (f : Bool) : Prop := w.heap[R]? = some (.cells #[.slice a l c, .bool f] 44 (0, 0))

theorem Rd.lt {w : World} {R : Nat} {a : Option Addr} {l c : Nat} {f : Bool} (h : Rd w R a l c f) : R < w.heap.size := lt_of_block h
theorem Rd.c0 {w : World} {R : Nat} {a : Option Addr} {l c : Nat} {f : Bool} (h : Rd w R a l c f) : w.cell? ⟨R, 0, none⟩ = some (.slice a l c) := by
  rw [cell_of_row w R 0 _ _ _ h]; rfl
theorem Rd.c1 {w : World} {R : Nat} {a : Option Addr} {l c : Nat} {f : Bool} (h : Rd w R a l c f) : w.cell? ⟨R, 1, none⟩ = some (.bool f) := by
  rw [cell_of_row w R 1 _ _ _ h]; rfl
theorem Rd.f0 {w : World} {R : Nat} {a : Option Addr} {l c : Nat} {f : Bool} (h : Rd w R a l c f) (i : Nat) : w.frozen? ⟨R, i, none⟩ = false := frozen_of_row w R i _ _ h
theorem Rd.set0 {w : World} {R : Nat} {a : Option Addr} {l c : Nat} {f : Bool} (h : Rd w R a l c f) (a' : Option Addr) (l' c' : Nat) : Rd (w.setCell ⟨R, 0, none⟩ (.slice a' l' c')) R a' l' c' f := by
  unfold Rd; rw [heap_setCell_same w R 0 _ _ _ h]; rfl
theorem Rd.set1 {w : World} {R : Nat} {a : Option Addr} {l c : Nat} {f : Bool} (h : Rd w R a l c f) (f' : Bool) : Rd (w.setCell ⟨R, 1, none⟩ (.bool f')) R a l c f' := by
  unfold Rd; rw [heap_setCell_same w R 1 _ _ _ h]; rfl
theorem upd_set (w : World) (R i : Nat) (u : Value) : w.grownBy (w.setCell ⟨R, i, none⟩ u) (some R) :=
  ⟨rfl, rfl, rfl, by simp, fun k _ hk => heap_setCell_other w ⟨R, i, none⟩ k u (fun e => hk (by simp [e]))⟩
theorem grownBy_trans {w w1 w2 : World} {row : Option Nat} (h : w.grownBy w1 row) (k : w1.grownBy w2 row) : w.grownBy w2 row :=
  ⟨k.os.trans h.os, k.tape.trans h.tape, k.output.trans h.output, Nat.le_trans h.size k.size, fun i hi hn => (k.block i (Nat.lt_of_lt_of_le hi h.size) hn).trans (h.block i hi hn)⟩
theorem Rd.new (w : World) (a : Option Addr) (l c : Nat) (f : Bool) : Rd (w.alloc (.cells #[.slice a l c, .bool f] 44)) w.heap.size a l c f := heap_alloc_new w _

set_option maxHeartbeats 400000 in
theorem fail_any {R : Nat} {w : World} {a : Option Addr} {l c : Nat} {f : Bool} (h : Rd w R a l c f) :
    Calls Try.prog 28 #[.pointer (some ⟨R, 0, none⟩)] w fun e w' => e = .returned (.tuple #[]) ∧ Rd w' R none 0 0 true ∧ w.grownBy w' (some R) := by
  have h0 := h.c0
  have h1 := h.c1
  have f0 := h.f0 0
  have f1 := h.f0 1
  go_enter Try.func28, Try.ntmps28
  go_wp2
  go_end0
  exact ⟨rfl, (h.set1 true).set0 _ _ _, grownBy_trans (upd_set _ _ _ _) (upd_set _ _ _ _)⟩

set_option maxHeartbeats 400000 in
theorem failed_any {R : Nat} {w : World} {a : Option Addr} {l c : Nat} {f : Bool} (h : Rd w R a l c f) :
    Calls Try.prog 15 #[.pointer (some ⟨R, 0, none⟩)] w fun e w' => e = .returned (.bool f) ∧ w = w' := by
  have h1 := h.c1
  go_enter Try.func15, Try.ntmps15
  go_wp2
  go_ret
  exact ⟨rfl, rfl⟩

set_option maxHeartbeats 400000 in
theorem rest_any {R : Nat} {w : World} {a : Option Addr} {l c : Nat} {f : Bool} (h : Rd w R a l c f) :
    Calls Try.prog 18 #[.pointer (some ⟨R, 0, none⟩)] w fun e w' => e = .returned (.slice a l c) ∧ w = w' := by
  have h0 := h.c0
  go_enter Try.func18, Try.ntmps18
  go_wp2
  go_ret
  exact ⟨rfl, rfl⟩

set_option maxHeartbeats 400000 in
theorem new_any (w : World) (a : Option Addr) (len cap : Nat) :
    Calls Try.prog 13 #[.slice a len cap] w fun e w' => e = .returned (.pointer (some ⟨w.heap.size, 0, none⟩)) ∧ w' = w.alloc (.cells #[.slice a len cap, .bool false] 44) := by
  go_enter Try.func13, Try.ntmps13
  go_wp2
  go_ret
  exact ⟨rfl, rfl⟩

set_option maxHeartbeats 400000 in
theorem take_bad {R : Nat} {w : World} {a : Option Addr} {l c : Nat} {f : Bool} (h : Rd w R a l c f) (n : Int) (hl : l ≤ c) (hm : c ≤ maxLen) (hn : f = true ∨ n < 0 ∨ (l : Int) < n) :
    Calls Try.prog 27 #[.pointer (some ⟨R, 0, none⟩), .int .i64 n] w fun e w' => e = .returned (.slice none 0 0) ∧ Rd w' R none 0 0 true ∧ w.grownBy w' (some R) := by
  unfold maxLen at hm
  have h0 := h.c0
  have h1 := h.c1
  cases f
  · have hn' : n < 0 ∨ (l : Int) < n := by simpa using hn
    clear hn
    by_cases hneg : n < 0
    · go_enter Try.func27, Try.ntmps27
      go_wp2_with (go_at_call 28; refine (fail_any h).mono ?_; rintro e w' ⟨rfl, hr, hg⟩)
      go_ret
      exact ⟨rfl, hr, hg⟩
    · have hgt : (l : Int) < n := by omega
      clear hn'
      go_enter Try.func27, Try.ntmps27
      go_wp2_with (go_at_call 28; refine (fail_any h).mono ?_; rintro e w' ⟨rfl, hr, hg⟩)
      go_ret
      exact ⟨rfl, hr, hg⟩
  · clear hn
    go_enter Try.func27, Try.ntmps27
    go_wp2_with (go_at_call 28; refine (fail_any h).mono ?_; rintro e w' ⟨rfl, hr, hg⟩)
    go_ret
    exact ⟨rfl, hr, hg⟩

set_option maxHeartbeats 400000 in
theorem take_ok {R : Nat} {w : World} {a : Option Addr} {l c : Nat} (hR : Rd w R a l c false) (n : Nat) (hl : l ≤ c) (hm : c ≤ maxLen) (hn : n ≤ l) :
    Calls Try.prog 27 #[.pointer (some ⟨R, 0, none⟩), .int .i64 n] w fun e w' => e = .returned (.slice a n n) ∧ ∃ a', (n < l → a' = a.map fun x => x.add n) ∧ Rd w' R a' (l - n) (c - n) false ∧ w.grownBy w' (some R) := by
  unfold maxLen at hm
  have h0 := hR.c0
  have h1 := hR.c1
  have f0 := hR.f0 0
  have hn2 : (n : Int) ≤ l := by omega
  have hn3 : n ≤ c := by omega
  go_enter Try.func27, Try.ntmps27
  go_wp2_with fail
  all_goals go_ret
  · rename_i hc
    exact ⟨rfl, a, fun h' => by omega, hR.set0 a (l - n) 0, upd_set _ _ _ _⟩
  · exact ⟨rfl, _, fun h' => rfl, hR.set0 _ _ _, upd_set _ _ _ _⟩

set_option maxHeartbeats 400000 in
theorem zztake_bad {R : Nat} {w : World} {a : Option Addr} {l c : Nat} {f : Bool} (h : Rd w R a l c f) (n : Int) (hl : l ≤ c) (hm : c ≤ maxLen) (hn : f = true ∨ n < 0 ∨ (l : Int) < n) :
    Calls Try.prog 14 #[.pointer (some ⟨R, 0, none⟩), .int .i64 n] w fun e w' => e = .returned (.slice none 0 0) ∧ Rd w' R none 0 0 true ∧ w.grownBy w' (some R) := by
  have HN : Hid (f = true ∨ n < 0 ∨ (l : Int) < n) := hn
  clear hn
  go_enter Try.func14, Try.ntmps14
  go_wp2_with (go_at_call 27; refine (take_bad h n hl hm HN.out).mono ?_; rintro e w' ⟨rfl, hr, hg⟩)
  go_ret
  exact ⟨rfl, hr, hg⟩

set_option maxHeartbeats 400000 in
theorem zztake_ok {R : Nat} {w : World} {a : Option Addr} {l c : Nat} (h : Rd w R a l c false) (n : Nat) (hl : l ≤ c) (hm : c ≤ maxLen) (hn : n ≤ l) :
    Calls Try.prog 14 #[.pointer (some ⟨R, 0, none⟩), .int .i64 n] w fun e w' => e = .returned (.slice a n n) ∧ ∃ a', (n < l → a' = a.map fun x => x.add n) ∧ Rd w' R a' (l - n) (c - n) false ∧ w.grownBy w' (some R) := by
  go_enter Try.func14, Try.ntmps14
  go_wp2_with (go_at_call 27; refine (take_ok h n hl hm hn).mono ?_; rintro e w' ⟨rfl, a', ha', hr, hg⟩)
  go_ret
  exact ⟨rfl, a', ha', hr, hg⟩

set_option maxHeartbeats 400000 in
theorem byte_bad {R : Nat} {w : World} {a : Option Addr} {l c : Nat} {f : Bool} (h : Rd w R a l c f) (hl : l ≤ c) (hm : c ≤ maxLen) (hn : f = true ∨ l = 0) :
    Calls Try.prog 17 #[.pointer (some ⟨R, 0, none⟩)] w fun e w' => e = .returned (.int .u8 0) ∧ Rd w' R none 0 0 true ∧ w.grownBy w' (some R) := by
  have HN : Hid (f = true ∨ (1 : Int) < 0 ∨ (l : Int) < 1) := by rcases hn with h | h; exact .inl h; exact .inr (.inr (by omega))
  clear hn
  have hnil := fun (w : World) (a : Option Addr) (n c : Nat) => Lib.run_eql_slice_nil (P := Try.prog) w 22 5 a n c 0 0 Try.underlying22
  go_enter Try.func17, Try.ntmps17
  go_wp2_with (go_at_call 27; refine (take_bad h 1 hl hm HN.out).mono ?_; rintro e w' ⟨rfl, hr, hg⟩)
  go_ret
  exact ⟨rfl, hr, hg⟩

set_option maxHeartbeats 400000 in
theorem byte_ok {R : Nat} {w : World} {b o l c : Nat} (h : Rd w R (some ⟨b, o, none⟩) l c false) (hl : l ≤ c) (hm : c ≤ maxLen) (hn : 0 < l) (x : Int) (hx : w.cell? ⟨b, o, none⟩ = some (.int .u8 x)) (hb : b ≠ R) :
    Calls Try.prog 17 #[.pointer (some ⟨R, 0, none⟩)] w fun e w' => e = .returned (.int .u8 x) ∧ ∃ a', (1 < l → a' = some ⟨b, o + 1, none⟩) ∧ Rd w' R a' (l - 1) (c - 1) false ∧ w.grownBy w' (some R) := by
  have hnil := fun (w : World) (a : Option Addr) (n c : Nat) => Lib.run_eql_slice_nil (P := Try.prog) w 22 5 a n c 0 0 Try.underlying22
  go_enter Try.func17, Try.ntmps17
  go_wp2_with (go_at_call 27; refine (take_ok h 1 hl hm (by omega)).mono ?_; rintro e w' ⟨rfl, a', ha', hr, hg⟩; have hx' := hg.cell hx (by simpa using hb))
  go_ret
  exact ⟨rfl, a', fun h => by rw [ha' h]; simp [Addr.add], hr, hg⟩

end Go.Proofs.Qxb6600122a
