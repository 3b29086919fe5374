/-
  FnByteAfterTakeMatchesOffset: the proof. The frame is the one that the skeleton tool wrote for this function; the walk is ours, over the contracts in Qxb6600122aReader, Clone, Live.
-/
import Derived.Test.Qxb6600122aLive
import Derived.WalkKit
import Derived.ProofKit
import Derived.OpenShut
import Derived.ShutString
import Derived.ChangeOld
import Derived.Below
namespace Go.Proofs.Qxb6600122a.fnByteAfterTakeMatchesOffset
open Go.ChangeShapes Go.WideShapes Go.ChangeAt Go.RowKit
open Go.ChangeMaps (open_string shut_string)
set_option linter.unusedVariables false

theorem own : ownKnob Try.prog.godebug = none := by kernel_rfl
theorem laidOut : laidOutB Try.prog = true := by kernel_rfl

theorem ret_bool {a b : Bool} (h : a = b) : Ending.returned (.bool a) = .returned (.bool b) := by rw [h]

set_option maxHeartbeats 1000000 in
theorem walk_in (a0 : Option Addr) (len0 cap0 : Nat) (z0 : List Int) (n : Nat) (w : World) (w0 : IsRow .u8 w a0 len0 cap0 z0) (hlen : len0 ≤ 1048576) (hn : n < len0) :
    Calls Try.prog 9 #[.slice a0 len0 cap0, .int .i64 n] w fun e w' => e = .returned (.bool true) ∧ Below w.heap.size w w' := by
  have hn' : (n : Int) < len0 := by omega
  have hn0 : (0 : Int) ≤ n := by omega
  have hml := (row_len w0).1
  go_enter Try.func9, Try.ntmps9
  go_wp2_with fail
  refine (zz26_yes _ _ _ _ _ hml hlen).mono ?_
  rintro e w' ⟨rfl, rfl⟩
  go_wp2_with fail
  refine (clone_bytes w0 hlen).mono ?_
  rintro e w1 ⟨av, rfl, hown, hbel⟩
  obtain ⟨g, rfl, _, _⟩ := own_split hown (by omega)
  obtain ⟨zs, hzs⟩ : ∃ zs, zs = z0.take len0 := ⟨_, rfl⟩
  rw [← hzs] at hown
  clear hzs w0
  go_wp2_with fail
  refine (live_new hown hbel).mono ?_
  rintro e w2 ⟨R, rfl, hL⟩
  clear hown hbel
  go_wp2_with fail
  refine (live_take hL n (by omega)).mono ?_
  rintro e w3 ⟨a, rfl, _, hL3⟩
  rw [Nat.zero_add] at hL3
  clear hL
  obtain ⟨z, hz⟩ : ∃ z, z = zs.getD n 0 := ⟨_, rfl⟩
  have HB : Hid (Calls Try.prog 17 #[.pointer (some ⟨R, 0, none⟩)] w3 fun e w' => e = .returned (.int .u8 z) ∧ Live w w' R (some ⟨g, 0, none⟩) len0 len0 zs (n + 1)) := by rw [hz]; exact live_byte hL3 hn
  have HZ : Hid (z = zs.getD n 0) := hz
  clear hz hL3
  go_wp2_with fail
  refine HB.out.mono ?_
  rintro e w4 ⟨rfl, hL4⟩
  clear HB
  have hc4 : w4.cell? ⟨g, n, none⟩ = some (.int .u8 z) := by rw [HZ.out]; exact hL4.cell n hn
  clear HZ
  go_wp2_with fail
  refine (live_failed hL4).mono ?_
  rintro e w' ⟨rfl, rfl⟩
  go_wp2_with fail
  refine (live_rest hL4).mono ?_
  rintro e w' ⟨a, rfl, _, rfl⟩
  go_wp2_with fail
  go_ret
  exact ⟨ret_bool (a := (((len0 - (n + 1) : Nat) : Int) == (len0 : Int) - (n : Int) - 1)) (by rw [beq_iff_eq]; omega), hL4.bel⟩

set_option maxHeartbeats 1000000 in
theorem walk_end (a0 : Option Addr) (len0 cap0 : Nat) (z0 : List Int) (w : World) (w0 : IsRow .u8 w a0 len0 cap0 z0) (hlen : len0 ≤ 1048576) :
    Calls Try.prog 9 #[.slice a0 len0 cap0, .int .i64 len0] w fun e w' => e = .returned (.bool true) ∧ Below w.heap.size w w' := by
  have hml := (row_len w0).1
  go_enter Try.func9, Try.ntmps9
  go_wp2_with fail
  refine (zz26_yes _ _ _ _ _ hml hlen).mono ?_
  rintro e w' ⟨rfl, rfl⟩
  go_wp2_with fail
  refine (clone_bytes w0 hlen).mono ?_
  rintro e w1 ⟨av, rfl, hown, hbel⟩
  clear w0
  go_wp2_with fail
  refine (live_new hown hbel).mono ?_
  rintro e w2 ⟨R, rfl, hL⟩
  clear hown hbel
  go_wp2_with fail
  refine (live_take hL len0 (by omega)).mono ?_
  rintro e w3 ⟨a, rfl, _, hL3⟩
  rw [Nat.zero_add] at hL3
  clear hL
  go_wp2_with fail
  refine (live_byte_end hL3).mono ?_
  rintro e w4 ⟨rfl, hD⟩
  clear hL3
  go_wp2_with fail
  refine (dead_failed hD).mono ?_
  rintro e w' ⟨rfl, rfl⟩
  go_wp2_with fail
  refine (dead_rest hD).mono ?_
  rintro e w' ⟨rfl, rfl⟩
  go_wp2_with fail
  go_ret
  exact ⟨rfl, hD.bel⟩

set_option maxHeartbeats 1000000 in
theorem walk_out (a0 : Option Addr) (len0 cap0 : Nat) (z0 : List Int) (a1 : Int) (w : World) (w0 : IsRow .u8 w a0 len0 cap0 z0) (hlen : len0 ≤ 1048576) (hn : a1 < 0 ∨ (len0 : Int) < a1) :
    Calls Try.prog 9 #[.slice a0 len0 cap0, .int .i64 a1] w fun e w' => e = .returned (.bool true) ∧ Below w.heap.size w w' := by
  have hml := (row_len w0).1
  have HT : Hid (∀ {w1 w2 : World} {R : Nat} {av : Option Addr} {zs : List Int}, Live w1 w2 R av len0 len0 zs 0 → Calls Try.prog 14 #[.pointer (some ⟨R, 0, none⟩), .int .i64 a1] w2 fun e w' => e = .returned (.slice none 0 0) ∧ Dead w1 w' R av len0 len0 zs) := fun h => live_take_bad h a1 (by simpa using hn)
  rcases (show (a1 < 0) ∨ (0 ≤ a1 ∧ (len0 : Int) < a1) by omega) with hn1 | ⟨hn1, hn2⟩
  all_goals
    clear hn
    go_enter Try.func9, Try.ntmps9
    go_wp2_with fail
    refine (zz26_yes _ _ _ _ _ hml hlen).mono ?_
    rintro e w' ⟨rfl, rfl⟩
    go_wp2_with fail
    refine (clone_bytes w0 hlen).mono ?_
    rintro e w1 ⟨av, rfl, hown, hbel⟩
    clear w0
    go_wp2_with fail
    refine (live_new hown hbel).mono ?_
    rintro e w2 ⟨R, rfl, hL⟩
    clear hown hbel
    go_wp2_with fail
    refine (HT.out hL).mono ?_
    rintro e w3 ⟨rfl, hD3⟩
    clear hL HT
    go_wp2_with fail
    refine (dead_byte hD3).mono ?_
    rintro e w4 ⟨rfl, hD⟩
    clear hD3
    go_wp2_with fail
    refine (dead_failed hD).mono ?_
    rintro e w' ⟨rfl, rfl⟩
    go_wp2_with fail
    refine (dead_rest hD).mono ?_
    rintro e w' ⟨rfl, rfl⟩
    go_wp2_with fail
    go_ret
    exact ⟨rfl, hD.bel⟩

/-! ### The walk -/
set_option maxHeartbeats 1000000 in
theorem walk (a0 : Option Addr) (len0 cap0 : Nat) (z0 : List Int) (a1 : Int) (w : World) (w0 : IsRow .u8 w a0 len0 cap0 z0) (w1 : (Lit.int .i64 a1).wf = true) :
    Calls Try.prog 9 #[.slice a0 len0 cap0, .int .i64 a1] w fun e w' => e = .returned (.bool true) ∧ Below w.heap.size w w' := by
  have hml := (row_len w0).1
  by_cases hlen : len0 ≤ 1048576
  · by_cases hn : 0 ≤ a1 ∧ a1 < len0
    · obtain ⟨n, rfl⟩ := Int.eq_ofNat_of_zero_le hn.1
      exact walk_in a0 len0 cap0 z0 n w w0 hlen (by omega)
    · by_cases he : a1 = len0
      · subst he
        exact walk_end a0 len0 cap0 z0 w w0 hlen
      · exact walk_out a0 len0 cap0 z0 a1 w w0 hlen (by omega)
  · clear w0
    go_enter Try.func9, Try.ntmps9
    go_wp2_with fail
    refine (zz26_no _ _ _ _ _ hml hlen).mono ?_
    rintro e w' ⟨rfl, rfl⟩
    go_wp2_with fail
    go_ret
    exact ⟨rfl, Below.refl _ _⟩

/-! ### The row's step (the frame) -/
set_option maxRecDepth 100000 in
theorem lifted (os : Os) (started : os.Started) (H : Type) (enc : TypeId × Value → H) :
    ReturnsInHanded {} Try.checked os 9 .any (Rows.fnByteAfterTakeMatchesOffsetSpec.pre6 enc Try.prog Try.f9 Rows.fnByteAfterTakeMatchesOffsetRow.domain false) (Rows.fnByteAfterTakeMatchesOffsetSpec.post enc Try.prog Try.f9 false true false false) := by
  refine returnsInHanded_of_change (C := Try.checked) own started (by kernel_rfl) Try.func9
    (ChangeSpec.witness6 (enc := enc) (C := Try.checked) false ⟨#[], #[.slice none 0 0, .int .i64 0], []⟩ 8 (by kernel_rfl) (by kernel_rfl) (by kernel_rfl) (by kernel_rfl)) ?_
  intro W base args ds gs before hval0 hW hcnd _
  have hval : ∀ (j : Nat) t v, Try.f9.params[j]? = some t → args[j]? = some v → Value.okWide Try.prog W .any base t v := hval0
  have hW' := hW
  obtain ⟨p, q, hA0, hV, rfl, hfz, hnd⟩ := hW
  have hA : DataW.TrodAll enc Try.prog W 0 (fun _ => true) true Try.f9.params.toList args.toList ds p := hA0
  rw [Try.params9] at hA hval
  obtain ⟨v0, vs0, d0, ds0, p0, q0, hargs, rfl, rfl, h0, r0⟩ := trodAll_cons hA
  obtain ⟨v1, vs1, d1, ds1, p1, q1, rfl, rfl, rfl, h1, r1⟩ := trodAll_cons r0
  obtain ⟨rfl, rfl, rfl⟩ := trodAll_nil r1
  obtain rfl : args = #[v0, v1] := by cases args; simp_all
  obtain ⟨rfl, rfl⟩ := trodVars_none hV
  obtain ⟨a0, len0, cap0, rfl⟩ := okWide_slice Try.underlying22 (hval 0 22 v0 rfl rfl)
  have k0 := h0
  have lt0 : ∀ x ∈ p0, x.block < W.heap.size := by obtain ⟨m, hm⟩ := k0; exact DataW.trod_lt m _ _ _ hm
  obtain ⟨z0, w0⟩ : ∃ zs, IsRow .u8 W a0 len0 cap0 zs := by
    obtain ⟨fuel, hf⟩ := h0
    rcases open_ints Try.underlying22 Try.underlying5 (by kernel_rfl) hf with ⟨hcs, _⟩ | ⟨x, l, c, zs, hcs, _, hl, hm, hz, _, hcell, hwz⟩
    · simp [Value.cells] at hcs
      obtain ⟨rfl, rfl, rfl⟩ := hcs
      exact ⟨[], .inl ⟨rfl, rfl, rfl, rfl⟩⟩
    · simp [Value.cells] at hcs
      obtain ⟨rfl, rfl, rfl⟩ := hcs
      exact ⟨zs, .inr ⟨_, rfl, hl, hm, by simpa using hz, hcell, hwz⟩⟩
  obtain ⟨a1, rfl, rfl, rfl, w1⟩ := open_int Try.underlying3 (hval 1 3 v1 rfl rfl) h1
  clear hA0 hval0
  refine (walk a0 len0 cap0 z0 a1 W w0 w1).mono fun e W' ⟨he, bel⟩ => ?_
  subst he
  exact ⟨_, rfl, _, _, _, [], _, [], hW', trodAll_mk1 (shut_bool Try.underlying4 _), (trodAll_cons_mk (Below.trod laidOut (by kernel_rfl) (of_decide_eq_true (by kernel_rfl)) k0 bel lt0) (trodAll_cons_mk (shut_int Try.underlying3 w1) trodAll_mk0)), rfl, bel.frame _, fun h => by cases h⟩

theorem over : Rows.fnByteAfterTakeMatchesOffsetRow.holds Try.pinned (OpenSpec.ofChange Rows.fnByteAfterTakeMatchesOffsetSpec) :=
  OpenClaim.holds_of_wide 9 Try.f9 rfl rfl rfl rfl rfl rfl rfl ⟨rfl, rfl, rfl, rfl, rfl⟩ rfl rfl rfl rfl rfl (by kernel_rfl) Try.func9 (by kernel_rfl)
    (of_decide_eq_true (by kernel_rfl)) (by unfold Func.isWrapper; first | (rw [if_pos (by decide +kernel)]; kernel_rfl) | (rw [if_neg (by decide +kernel)]; exact ⟨rfl, rfl⟩))
    (fun os started H enc _ => lifted os started H enc)

/-- ████ THE STATEMENT ████ -/
theorem proved : Rows.FnByteAfterTakeMatchesOffsetSaid := over
end Go.Proofs.Qxb6600122a.fnByteAfterTakeMatchesOffset
