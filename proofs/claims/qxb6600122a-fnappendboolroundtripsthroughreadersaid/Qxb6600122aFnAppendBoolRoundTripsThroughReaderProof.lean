/-
  FnAppendBoolRoundTripsThroughReader: the proof. The frame is the one that the skeleton tool wrote for this function; the walk is ours, over the contracts in Qxb6600122aReader, Clone, Live.
-/
import Derived.Test.Qxb6600122aLive
import Derived.Test.Qxb6600122aMore
import Derived.WalkKit
import Derived.ProofKit
import Derived.OpenShut
import Derived.ShutString
import Derived.ChangeOld
import Derived.Below
namespace Go.Proofs.Qxb6600122a.fnAppendBoolRoundTripsThroughReader
open Go.ChangeShapes Go.WideShapes Go.ChangeAt Go.RowKit
open Go.ChangeMaps (open_string shut_string)
set_option linter.unusedVariables false

theorem own : ownKnob Try.prog.godebug = none := by kernel_rfl
theorem laidOut : laidOutB Try.prog = true := by kernel_rfl

theorem bit_false : bit false = 0 := rfl
theorem bit_true : bit true = 1 := rfl
theorem snoc_lt (zs : List Int) (x : Int) (j : Nat) (h : j < zs.length) : (zs ++ [x]).getD j 0 = zs.getD j 0 := by
  simp [List.getD, List.getElem?_append_left h]
theorem snoc_at (zs : List Int) (x : Int) (n : Nat) (h : zs.length = n) : (zs ++ [x]).getD n 0 = x := by
  simp [List.getD, ← h]

set_option maxHeartbeats 1000000 in
theorem walk_main (a0 : Option Addr) (len0 cap0 : Nat) (z0 : List Int) (v : Bool) (w : World) (w0 : IsRow .u8 w a0 len0 cap0 z0) (hlen : len0 ≤ 1048576) :
    Calls Try.prog 3 #[.slice a0 len0 cap0, .bool v] w fun e w' => e = .returned (.bool true) ∧ Below w.heap.size w w' := by
  have hml := (row_len w0).1
  have HL : Hid ((z0.take len0).length = len0) := (row_len w0).2
  go_enter Try.func3, Try.ntmps3
  go_wp2_with fail
  refine (zz10_yes _ _ _ _ _ hml hlen).mono ?_
  rintro e w' ⟨rfl, rfl⟩
  go_wp2_with fail
  refine (clone_bytes w0 hlen).mono ?_
  rintro e w1 ⟨av, rfl, hown, hbel⟩
  obtain ⟨zs, hzs⟩ : ∃ zs, zs = z0.take len0 := ⟨_, rfl⟩
  rw [← hzs] at hown HL
  clear hzs w0
  go_wp2_with fail
  refine (append_grow hown hlen v).mono ?_
  rintro e w2 ⟨g, c, rfl, hown2, hg2⟩
  go_wp2_with fail
  refine (live_new (w0 := w1) hown2 ((Below.refl _ _).grown hg2 (Nat.le_refl _) (fun k h => by cases h))).mono ?_
  rintro e w3 ⟨R, rfl, hL3⟩
  clear hown2 hg2
  go_wp2_with fail
  refine (live_take hL3 len0 (by omega)).mono ?_
  rintro e w4 ⟨a, rfl, ha, hL4⟩
  rw [Nat.zero_add] at hL4
  clear hL3
  obtain ⟨gb, hav⟩ : ∃ gb, 0 < len0 → av = some ⟨gb, 0, none⟩ := by
    rcases own_shape hown with ⟨_, h, _⟩ | ⟨gb, h, _⟩
    · exact ⟨0, fun h' => by omega⟩
    · exact ⟨gb, fun _ => h⟩
  have HS : Hid (Calls Try.prog 16 #[.slice a len0 len0, .slice av len0 len0] w4 fun e w' => e = .returned (.bool true) ∧ w4.grownBy w' none) := by
    refine same_yes a av len0 len0 len0 g 0 gb 0 zs w4 hlen (fun h => ha g rfl (by omega)) hav (fun j hj => ?_) (fun j hj => ?_)
    · have := hL4.cell j (by omega)
      rw [snoc_lt _ _ _ (by have := HL.out; omega)] at this
      rw [Nat.zero_add]
      exact this
    · have := hav (by omega)
      subst this
      have h1 := own_int hown j hj
      rw [Nat.zero_add]
      exact (hL4.bel.cell (block_lt_of_cell h1)).trans h1
  clear ha hav
  clear hown
  go_wp2_with fail
  refine (live_failed hL4).mono ?_
  rintro e w' ⟨rfl, rfl⟩
  go_wp2_with fail
  refine HS.out.mono ?_
  rintro e w5 ⟨rfl, hg5⟩
  clear HS
  have hL5 := hL4.grown hg5
  have HB : Hid (Calls Try.prog 17 #[.pointer (some ⟨R, 0, none⟩)] w5 fun e w' => e = .returned (.int .u8 (bit v)) ∧ Live w1 w' R (some ⟨g, 0, none⟩) (len0 + 1) c (zs ++ [bit v]) (len0 + 1)) := by
    have := live_byte hL5 (by omega)
    rwa [snoc_at _ _ _ HL.out] at this
  clear hL4 hL5 hg5
  go_wp2_with fail
  refine HB.out.mono ?_
  rintro e w6 ⟨rfl, hL6⟩
  clear HB HL
  cases v
  all_goals
    first | rw [bit_false] | rw [bit_true]
    go_wp2_with fail
    refine (live_failed hL6).mono ?_
    rintro e w' ⟨rfl, rfl⟩
    go_wp2_with fail
    refine (live_rest hL6).mono ?_
    rintro e w' ⟨a6, rfl, _, rfl⟩
    go_wp2_with fail
    refine (live_byte_end hL6).mono ?_
    rintro e w7 ⟨rfl, hD⟩
    have hbb7 : Below w.heap.size w w7 := hbel.trans (hD.bel.mono hbel.size)
    clear hL6
    go_wp2_with fail
    refine (dead_failed hD).mono ?_
    rintro e w' ⟨rfl, rfl⟩
    go_wp2_with fail
    go_ret
    exact ⟨rfl, hbb7⟩

/-! ### The walk -/
set_option maxHeartbeats 1000000 in
theorem walk (a0 : Option Addr) (len0 cap0 : Nat) (z0 : List Int) (a1 : Bool) (w : World) (w0 : IsRow .u8 w a0 len0 cap0 z0) :
    Calls Try.prog 3 #[.slice a0 len0 cap0, .bool a1] w fun e w' => e = .returned (.bool true) ∧ Below w.heap.size w w' := by
  have hml := (row_len w0).1
  by_cases hlen : len0 ≤ 1048576
  · exact walk_main a0 len0 cap0 z0 a1 w w0 hlen
  · clear w0
    go_enter Try.func3, Try.ntmps3
    go_wp2_with fail
    refine (zz10_no _ _ _ _ _ hml hlen).mono ?_
    rintro e w' ⟨rfl, rfl⟩
    go_wp2_with fail
    go_ret
    exact ⟨rfl, Below.refl _ _⟩

/-! ### The row's step (the frame) -/
set_option maxRecDepth 100000 in
theorem lifted (os : Os) (started : os.Started) (H : Type) (enc : TypeId × Value → H) :
    ReturnsInHanded {} Try.checked os 3 .any (Rows.fnAppendBoolRoundTripsThroughReaderSpec.pre6 enc Try.prog Try.f3 Rows.fnAppendBoolRoundTripsThroughReaderRow.domain false) (Rows.fnAppendBoolRoundTripsThroughReaderSpec.post enc Try.prog Try.f3 false true false false) := by
  refine returnsInHanded_of_change (C := Try.checked) own started (by kernel_rfl) Try.func3
    (ChangeSpec.witness6 (enc := enc) (C := Try.checked) false ⟨#[], #[.slice none 0 0, .bool false], []⟩ 8 (by kernel_rfl) (by kernel_rfl) (by kernel_rfl) (by kernel_rfl)) ?_
  intro W base args ds gs before hval0 hW hcnd _
  have hval : ∀ (j : Nat) t v, Try.f3.params[j]? = some t → args[j]? = some v → Value.okWide Try.prog W .any base t v := hval0
  have hW' := hW
  obtain ⟨p, q, hA0, hV, rfl, hfz, hnd⟩ := hW
  have hA : DataW.TrodAll enc Try.prog W 0 (fun _ => true) true Try.f3.params.toList args.toList ds p := hA0
  rw [Try.params3] at hA hval
  obtain ⟨v0, vs0, d0, ds0, p0, q0, hargs, rfl, rfl, h0, r0⟩ := trodAll_cons hA
  obtain ⟨v1, vs1, d1, ds1, p1, q1, rfl, rfl, rfl, h1, r1⟩ := trodAll_cons r0
  obtain ⟨rfl, rfl, rfl⟩ := trodAll_nil r1
  obtain rfl : args = #[v0, v1] := by cases args; simp_all
  obtain ⟨rfl, rfl⟩ := trodVars_none hV
  obtain ⟨a0, len0, cap0, rfl⟩ := okWide_slice Try.underlying22 (hval 0 22 v0 rfl rfl)
  have k0 := h0
  have lt0 : ∀ x ∈ p0, x.block < W.heap.size := by obtain ⟨m, hm⟩ := k0; exact DataW.trod_lt m _ _ _ hm
  obtain ⟨z0, w0⟩ : ∃ zs, IsRow .u8 W a0 len0 cap0 zs := by
    obtain ⟨fuel, hf⟩ := h0
    rcases open_ints Try.underlying22 Try.underlying5 (by kernel_rfl) hf with ⟨hcs, _⟩ | ⟨x, l, c, zs, hcs, _, hl, hm, hz, _, hcell, hwz⟩
    · simp [Value.cells] at hcs
      obtain ⟨rfl, rfl, rfl⟩ := hcs
      exact ⟨[], .inl ⟨rfl, rfl, rfl, rfl⟩⟩
    · simp [Value.cells] at hcs
      obtain ⟨rfl, rfl, rfl⟩ := hcs
      exact ⟨zs, .inr ⟨_, rfl, hl, hm, by simpa using hz, hcell, hwz⟩⟩
  obtain ⟨a1, rfl, rfl, rfl⟩ := open_bool Try.underlying4 (hval 1 4 v1 rfl rfl) h1
  clear hA0 hval0
  refine (walk a0 len0 cap0 z0 a1 W w0).mono fun e W' ⟨he, bel⟩ => ?_
  subst he
  exact ⟨_, rfl, _, _, _, [], _, [], hW', trodAll_mk1 (shut_bool Try.underlying4 _), (trodAll_cons_mk (Below.trod laidOut (by kernel_rfl) (of_decide_eq_true (by kernel_rfl)) k0 bel lt0) (trodAll_cons_mk (shut_bool Try.underlying4 _) trodAll_mk0)), rfl, bel.frame _, fun h => by cases h⟩

theorem over : Rows.fnAppendBoolRoundTripsThroughReaderRow.holds Try.pinned (OpenSpec.ofChange Rows.fnAppendBoolRoundTripsThroughReaderSpec) :=
  OpenClaim.holds_of_wide 3 Try.f3 rfl rfl rfl rfl rfl rfl rfl ⟨rfl, rfl, rfl, rfl, rfl⟩ rfl rfl rfl rfl rfl (by kernel_rfl) Try.func3 (by kernel_rfl)
    (of_decide_eq_true (by kernel_rfl)) (by unfold Func.isWrapper; first | (rw [if_pos (by decide +kernel)]; kernel_rfl) | (rw [if_neg (by decide +kernel)]; exact ⟨rfl, rfl⟩))
    (fun os started H enc _ => lifted os started H enc)

/-- ████ THE STATEMENT ████ -/
theorem proved : Rows.FnAppendBoolRoundTripsThroughReaderSaid := over
end Go.Proofs.Qxb6600122a.fnAppendBoolRoundTripsThroughReader
