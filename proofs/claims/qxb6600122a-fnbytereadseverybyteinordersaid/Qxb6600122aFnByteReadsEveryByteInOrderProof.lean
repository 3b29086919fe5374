/-
  FnByteReadsEveryByteInOrder: the proof. The frame is the one that the skeleton tool wrote for this function; the walk is ours, over the contracts in Qxb6600122aReader, Clone, Live.
-/
import Derived.Test.Qxb6600122aLive
import Derived.WalkKit
import Derived.ProofKit
import Derived.OpenShut
import Derived.ShutString
import Derived.ChangeOld
import Derived.Below
namespace Go.Proofs.Qxb6600122a.fnByteReadsEveryByteInOrder
open Go.ChangeShapes Go.WideShapes Go.ChangeAt Go.RowKit
open Go.ChangeMaps (open_string shut_string)
set_option linter.unusedVariables false

theorem own : ownKnob Try.prog.godebug = none := by kernel_rfl
theorem laidOut : laidOutB Try.prog = true := by kernel_rfl

set_option maxHeartbeats 1000000 in
theorem walk_main (a0 : Option Addr) (len0 cap0 : Nat) (z0 : List Int) (w : World) (w0 : IsRow .u8 w a0 len0 cap0 z0) (hlen : len0 ≤ 1048576) :
    Calls Try.prog 8 #[.slice a0 len0 cap0] w fun e w' => e = .returned (.bool true) ∧ Below w.heap.size w w' := by
  have hml := (row_len w0).1
  go_enter Try.func8, Try.ntmps8
  go_wp2_with fail
  refine (zz25_yes _ _ _ _ hml hlen).mono ?_
  rintro e w' ⟨rfl, rfl⟩
  go_wp2_with fail
  refine (clone_bytes w0 hlen).mono ?_
  rintro e w1 ⟨av, rfl, hown, hbel⟩
  obtain ⟨zs, hzs⟩ : ∃ zs, zs = z0.take len0 := ⟨_, rfl⟩
  rw [← hzs] at hown
  clear hzs w0
  go_wp2_with fail
  refine (live_new hown hbel).mono ?_
  rintro e w2 ⟨R, rfl, hL⟩
  clear hown hbel
  go_wp2_with fail
  go_loopw [4, 5] (fun i _ wr => ∃ k : Nat, k ≤ len0 ∧ i = .int .i64 k ∧ Live w wr R av len0 len0 zs k) (fun i _ _ => len0 - (intOf i).toNat)
  case atStart => exact ⟨0, Nat.zero_le _, rfl, hL⟩
  case round =>
    obtain ⟨k, hk, rfl, hLk⟩ := hrel
    clear hL
    by_cases hlt : k < len0
    · obtain ⟨z, hz⟩ : ∃ z, z = zs.getD k 0 := ⟨_, rfl⟩
      have HB : Hid (Calls Try.prog 17 #[.pointer (some ⟨R, 0, none⟩)] wr fun e w' => e = .returned (.int .u8 z) ∧ Live w w' R av len0 len0 zs (k + 1)) := by rw [hz]; exact live_byte hLk hlt
      obtain ⟨g, rfl, _, _⟩ := own_split hLk.own (by omega)
      have HC : Hid (∀ w', Live w w' R (some ⟨g, 0, none⟩) len0 len0 zs (k + 1) → w'.cell? ⟨g, k, none⟩ = some (.int .u8 z)) := fun w' h => by rw [hz]; exact h.cell k hlt
      clear hz hLk
      go_wp2_with fail
      refine HB.out.mono ?_
      rintro e w3 ⟨rfl, hL3⟩
      have hc3 := HC.out w3 hL3
      clear HB HC
      go_wp2_with fail
      refine (live_failed hL3).mono ?_
      rintro e w' ⟨rfl, rfl⟩
      go_wp2_with fail
      go_roundw
      case rel => exact ⟨k + 1, by omega, by go_num, hL3⟩
      case measure => simp [intOf]; omega
    · have hkn : k = len0 := by omega
      subst hkn
      go_wp2_with fail
      refine (live_rest hLk).mono ?_
      rintro e w' ⟨a, rfl, _, rfl⟩
      go_wp2_with fail
      refine (live_byte_end hLk).mono ?_
      rintro e w3 ⟨rfl, hD⟩
      clear hLk
      go_wp2_with fail
      refine (dead_failed hD).mono ?_
      rintro e w' ⟨rfl, rfl⟩
      go_wp2_with fail
      refine (dead_byte hD).mono ?_
      rintro e w4 ⟨rfl, hD4⟩
      clear hD
      go_wp2_with fail
      refine (dead_failed hD4).mono ?_
      rintro e w' ⟨rfl, rfl⟩
      go_wp2_with fail
      go_ret
      exact ⟨rfl, hD4.bel⟩

/-! ### The walk -/
set_option maxHeartbeats 1000000 in
theorem walk (a0 : Option Addr) (len0 cap0 : Nat) (z0 : List Int) (w : World) (w0 : IsRow .u8 w a0 len0 cap0 z0) :
    Calls Try.prog 8 #[.slice a0 len0 cap0] w fun e w' => e = .returned (.bool true) ∧ Below w.heap.size w w' := by
  have hml := (row_len w0).1
  by_cases hlen : len0 ≤ 1048576
  · exact walk_main a0 len0 cap0 z0 w w0 hlen
  · clear w0
    go_enter Try.func8, Try.ntmps8
    go_wp2_with fail
    refine (zz25_no _ _ _ _ hml hlen).mono ?_
    rintro e w' ⟨rfl, rfl⟩
    go_wp2_with fail
    go_ret
    exact ⟨rfl, Below.refl _ _⟩

/-! ### The row's step (the frame) -/
set_option maxRecDepth 100000 in
theorem lifted (os : Os) (started : os.Started) (H : Type) (enc : TypeId × Value → H) :
    ReturnsInHanded {} Try.checked os 8 .any (Rows.fnByteReadsEveryByteInOrderSpec.pre6 enc Try.prog Try.f8 Rows.fnByteReadsEveryByteInOrderRow.domain false) (Rows.fnByteReadsEveryByteInOrderSpec.post enc Try.prog Try.f8 false true false false) := by
  refine returnsInHanded_of_change (C := Try.checked) own started (by kernel_rfl) Try.func8
    (ChangeSpec.witness6 (enc := enc) (C := Try.checked) false ⟨#[], #[.slice none 0 0], []⟩ 8 (by kernel_rfl) (by kernel_rfl) (by kernel_rfl) (by kernel_rfl)) ?_
  intro W base args ds gs before hval0 hW hcnd _
  have hval : ∀ (j : Nat) t v, Try.f8.params[j]? = some t → args[j]? = some v → Value.okWide Try.prog W .any base t v := hval0
  have hW' := hW
  obtain ⟨p, q, hA0, hV, rfl, hfz, hnd⟩ := hW
  have hA : DataW.TrodAll enc Try.prog W 0 (fun _ => true) true Try.f8.params.toList args.toList ds p := hA0
  rw [Try.params8] at hA hval
  obtain ⟨v0, vs0, d0, ds0, p0, q0, hargs, rfl, rfl, h0, r0⟩ := trodAll_cons hA
  obtain ⟨rfl, rfl, rfl⟩ := trodAll_nil r0
  obtain rfl : args = #[v0] := by cases args; simp_all
  obtain ⟨rfl, rfl⟩ := trodVars_none hV
  obtain ⟨a0, len0, cap0, rfl⟩ := okWide_slice Try.underlying22 (hval 0 22 v0 rfl rfl)
  have k0 := h0
  have lt0 : ∀ x ∈ p0, x.block < W.heap.size := by obtain ⟨m, hm⟩ := k0; exact DataW.trod_lt m _ _ _ hm
  obtain ⟨z0, w0⟩ : ∃ zs, IsRow .u8 W a0 len0 cap0 zs := by
    obtain ⟨fuel, hf⟩ := h0
    rcases open_ints Try.underlying22 Try.underlying5 (by kernel_rfl) hf with ⟨hcs, _⟩ | ⟨x, l, c, zs, hcs, _, hl, hm, hz, _, hcell, hwz⟩
    · simp [Value.cells] at hcs
      obtain ⟨rfl, rfl, rfl⟩ := hcs
      exact ⟨[], .inl ⟨rfl, rfl, rfl, rfl⟩⟩
    · simp [Value.cells] at hcs
      obtain ⟨rfl, rfl, rfl⟩ := hcs
      exact ⟨zs, .inr ⟨_, rfl, hl, hm, by simpa using hz, hcell, hwz⟩⟩
  clear hA0 hval0
  refine (walk a0 len0 cap0 z0 W w0).mono fun e W' ⟨he, bel⟩ => ?_
  subst he
  exact ⟨_, rfl, _, _, _, [], _, [], hW', trodAll_mk1 (shut_bool Try.underlying4 _), (trodAll_cons_mk (Below.trod laidOut (by kernel_rfl) (of_decide_eq_true (by kernel_rfl)) k0 bel lt0) trodAll_mk0), rfl, bel.frame _, fun h => by cases h⟩

theorem over : Rows.fnByteReadsEveryByteInOrderRow.holds Try.pinned (OpenSpec.ofChange Rows.fnByteReadsEveryByteInOrderSpec) :=
  OpenClaim.holds_of_wide 8 Try.f8 rfl rfl rfl rfl rfl rfl rfl ⟨rfl, rfl, rfl, rfl, rfl⟩ rfl rfl rfl rfl rfl (by kernel_rfl) Try.func8 (by kernel_rfl)
    (of_decide_eq_true (by kernel_rfl)) (by unfold Func.isWrapper; first | (rw [if_pos (by decide +kernel)]; kernel_rfl) | (rw [if_neg (by decide +kernel)]; exact ⟨rfl, rfl⟩))
    (fun os started H enc _ => lifted os started H enc)

/-- ████ THE STATEMENT ████ -/
theorem proved : Rows.FnByteReadsEveryByteInOrderSaid := over
end Go.Proofs.Qxb6600122a.fnByteReadsEveryByteInOrder
