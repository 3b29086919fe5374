/-
  FnAppendBoolSequenceDecodesInOrder: the proof. The frame is after the one that the skeleton tool writes for a slice of integers, turned to a slice of bools; the walk is ours, over the contracts in Qxb6600122aReader, Clone, Live, More.
-/
import Derived.Test.Qxb6600122aMore
import Derived.Deep.Grids
import Derived.WalkKit
import Derived.ProofKit
import Derived.OpenShut
import Derived.ShutString
import Derived.ChangeOld
import Derived.Below
namespace Go.Proofs.Qxb6600122a.fnAppendBoolSequenceDecodesInOrder
open Go.ChangeShapes Go.WideShapes Go.ChangeAt Go.RowKit
open Go.ChangeMaps (open_string shut_string)
set_option linter.unusedVariables false

theorem own : ownKnob Try.prog.godebug = none := by kernel_rfl
theorem laidOut : laidOutB Try.prog = true := by kernel_rfl

theorem bits_len (w : World) {a : Option Addr} {len cap : Nat} {zs : List Bool} (h : IsBits w a len cap zs) : len ≤ maxLen ∧ (zs.take len).length = len := by
  rcases h with ⟨_, rfl, _, rfl⟩ | ⟨x, _, h, h', h'', _⟩
  · exact ⟨by unfold maxLen; omega, rfl⟩
  · exact ⟨by omega, by simp; omega⟩
theorem bit_false : bit false = 0 := rfl
theorem bit_true : bit true = 1 := rfl
theorem bits_step (zs : List Bool) (k : Nat) (h : k < zs.length) : (zs.take k).map bit ++ [bit (zs.getD k false)] = (zs.take (k + 1)).map bit := by
  have e : zs.getD k false = zs[k] := by simp [List.getD, h]
  rw [e, List.take_succ_eq_append_getElem h, List.map_append]
  rfl
theorem bits_at (zs : List Bool) (k : Nat) (h : k < zs.length) : (zs.map bit).getD k 0 = bit (zs.getD k false) := by
  simp [List.getD, h]

set_option maxHeartbeats 1000000 in
theorem walk_main (a0 : Option Addr) (len0 cap0 : Nat) (z0 : List Bool) (w : World) (w0 : IsBits w a0 len0 cap0 z0) (hlen : len0 ≤ 524288) :
    Calls Try.prog 4 #[.slice a0 len0 cap0] w fun e w' => e = .returned (.bool true) ∧ Below w.heap.size w w' := by
  have hml := (bits_len w w0).1
  have HL : Hid ((z0.take len0).length = len0) := (bits_len w w0).2
  go_enter Try.func4, Try.ntmps4
  go_wp2_with fail
  refine (zz19_yes _ _ _ _ hml (by omega)).mono ?_
  rintro e w' ⟨rfl, rfl⟩
  go_wp2_with fail
  refine (clone_bools w0 (by omega)).mono ?_
  rintro e w1 ⟨av, rfl, hown, hbel⟩
  obtain ⟨zs, hzs⟩ : ∃ zs, zs = z0.take len0 := ⟨_, rfl⟩
  rw [← hzs] at hown HL
  clear hzs w0
  obtain ⟨gv, hav⟩ : ∃ gv, 0 < len0 → av = some ⟨gv, 0, none⟩ := by
    rcases own_shape hown with ⟨_, h, _⟩ | ⟨gv, h, _⟩
    · exact ⟨0, fun h' => by omega⟩
    · exact ⟨gv, fun _ => h⟩
  have HC : Hid (∀ j, j < len0 → w1.cell? ⟨gv, j, none⟩ = some (.bool (zs.getD j false))) := by
    intro j hj
    have := hav (by omega)
    subst this
    exact own_bool hown j hj
  clear hown
  go_wp2_with fail
  go_loopw [3, 4] (fun v i wr => ∃ k : Nat, k ≤ len0 ∧ i = .int .i64 k ∧ ∃ ae ce, v = .slice ae k ce ∧ wr.ownsRow w1.heap.size 5 1 (.slice ae k ce) k (((zs.take k).map bit).map (Value.int .u8)) ∧ Below w1.heap.size w1 wr) (fun _ i _ => len0 - (intOf i).toNat)
  case atStart => exact ⟨0, Nat.zero_le _, rfl, none, 0, rfl, World.ownsRow_nil _ _ _ _, Below.refl _ _⟩
  case round =>
    obtain ⟨k, hk, rfl, ae, ce, rfl, hown, hb⟩ := hrel
    by_cases hlt : k < len0
    · obtain rfl := hav (by omega)
      obtain ⟨b, hbk⟩ : ∃ b, b = zs.getD k false := ⟨_, rfl⟩
      have hc : wr.cell? ⟨gv, k, none⟩ = some (.bool b) := by
        have h1 := HC.out k hlt
        rw [hbk]
        exact (hb.cell (block_lt_of_cell h1)).trans h1
      have HA : Hid (Calls Try.prog 12 #[.slice ae k ce, .bool b] wr fun e w' => ∃ g c, e = .returned (.slice (some ⟨g, 0, none⟩) (k + 1) c) ∧ w'.ownsRow w1.heap.size 5 1 (.slice (some ⟨g, 0, none⟩) (k + 1) c) (k + 1) (((zs.take (k + 1)).map bit).map (Value.int .u8)) ∧ Below w1.heap.size wr w') := by
        have := append_own hown (by omega) hb.size b
        rwa [hbk, bits_step zs k (by have := HL.out; omega), ← hbk] at this
      clear hbk hown hav
      go_wp2_with fail
      refine HA.out.mono ?_
      rintro e w2 ⟨g, c, rfl, hown2, hb2⟩
      clear HA hc
      have hb3 := hb.trans hb2
      clear hb hb2
      go_wp2_with fail
      go_roundw
      case rel => exact ⟨k + 1, by omega, by go_num, _, _, rfl, hown2, hb3⟩
      case measure => simp [intOf]; omega
    · have hkn : k = len0 := by omega
      subst hkn
      have hall : zs.take k = zs := List.take_of_length_le (by have := HL.out; omega)
      rw [hall] at hown
      clear hall hlt hk
      go_wp2_with fail
      refine (live_new (w0 := w1) hown hb).mono ?_
      rintro e w3 ⟨R, rfl, hL3⟩
      clear hown hb
      go_wp2_with fail
      go_loopw [6, 7] (fun i _ wr => ∃ j : Nat, j ≤ k ∧ i = .int .i64 j ∧ Live w1 wr R ae k ce (zs.map bit) j) (fun i _ _ => k - (intOf i).toNat)
      case atStart => exact ⟨0, Nat.zero_le _, rfl, hL3⟩
      case round =>
        obtain ⟨j, hj, rfl, hLj⟩ := hrel
        clear hL3
        by_cases hlt : j < k
        · obtain rfl := hav (by omega)
          obtain ⟨b, hbk⟩ : ∃ b, b = zs.getD j false := ⟨_, rfl⟩
          have HB : Hid (Calls Try.prog 17 #[.pointer (some ⟨R, 0, none⟩)] wr fun e w' => e = .returned (.int .u8 (bit b)) ∧ Live w1 w' R ae k ce (zs.map bit) (j + 1)) := by
            have := live_byte hLj hlt
            rwa [bits_at zs j (by have := HL.out; omega), ← hbk] at this
          have HV : Hid (∀ w', Live w1 w' R ae k ce (zs.map bit) (j + 1) → w'.cell? ⟨gv, j, none⟩ = some (.bool b)) := by
            intro w' h
            have h1 := HC.out j hlt
            rw [hbk]
            exact (h.bel.cell (block_lt_of_cell h1)).trans h1
          clear hbk hLj hav
          go_wp2_with fail
          refine HB.out.mono ?_
          rintro e w4 ⟨rfl, hL4⟩
          have hc4 := HV.out w4 hL4
          clear HB HV
          cases b
          all_goals
            first | rw [bit_false] | rw [bit_true]
            go_wp2_with fail
            refine (live_failed hL4).mono ?_
            rintro e w' ⟨rfl, rfl⟩
            go_wp2_with fail
            go_roundw
            case rel => exact ⟨j + 1, by omega, by go_num, hL4⟩
            case measure => simp [intOf]; omega
        · have hjk : j = k := by omega
          subst hjk
          go_wp2_with fail
          refine (live_rest hLj).mono ?_
          rintro e w' ⟨a6, rfl, _, rfl⟩
          go_wp2_with fail
          refine (live_byte_end hLj).mono ?_
          rintro e w7 ⟨rfl, hD⟩
          have hbb7 : Below w.heap.size w w7 := hbel.trans (hD.bel.mono hbel.size)
          clear hLj
          go_wp2_with fail
          refine (dead_failed hD).mono ?_
          rintro e w' ⟨rfl, rfl⟩
          go_wp2_with fail
          go_ret
          exact ⟨rfl, hbb7⟩

/-! ### The walk -/
set_option maxHeartbeats 1000000 in
theorem walk (a0 : Option Addr) (len0 cap0 : Nat) (z0 : List Bool) (w : World) (w0 : IsBits w a0 len0 cap0 z0) :
    Calls Try.prog 4 #[.slice a0 len0 cap0] w fun e w' => e = .returned (.bool true) ∧ Below w.heap.size w w' := by
  have hml := (bits_len w w0).1
  by_cases hlen : len0 ≤ 524288
  · exact walk_main a0 len0 cap0 z0 w w0 hlen
  · clear w0
    have hlen' : (524288 : Int) < len0 := by omega
    by_cases hl2 : len0 ≤ 1048576
    · go_enter Try.func4, Try.ntmps4
      go_wp2_with fail
      refine (zz19_yes _ _ _ _ hml hl2).mono ?_
      rintro e w' ⟨rfl, rfl⟩
      go_wp2_with fail
      go_ret
      exact ⟨rfl, Below.refl _ _⟩
    · go_enter Try.func4, Try.ntmps4
      go_wp2_with fail
      refine (zz19_no _ _ _ _ hml hl2).mono ?_
      rintro e w' ⟨rfl, rfl⟩
      go_wp2_with fail
      go_ret
      exact ⟨rfl, Below.refl _ _⟩

/-! ### The row's step (the frame) -/
set_option maxRecDepth 100000 in
theorem lifted (os : Os) (started : os.Started) (H : Type) (enc : TypeId × Value → H) :
    ReturnsInHanded {} Try.checked os 4 .any (Rows.fnAppendBoolSequenceDecodesInOrderSpec.pre6 enc Try.prog Try.f4 Rows.fnAppendBoolSequenceDecodesInOrderRow.domain false) (Rows.fnAppendBoolSequenceDecodesInOrderSpec.post enc Try.prog Try.f4 false true false false) := by
  refine returnsInHanded_of_change (C := Try.checked) own started (by kernel_rfl) Try.func4
    (ChangeSpec.witness6 (enc := enc) (C := Try.checked) false ⟨#[], #[.slice none 0 0], []⟩ 8 (by kernel_rfl) (by kernel_rfl) (by kernel_rfl) (by kernel_rfl)) ?_
  intro W base args ds gs before hval0 hW hcnd _
  have hval : ∀ (j : Nat) t v, Try.f4.params[j]? = some t → args[j]? = some v → Value.okWide Try.prog W .any base t v := hval0
  have hW' := hW
  obtain ⟨p, q, hA0, hV, rfl, hfz, hnd⟩ := hW
  have hA : DataW.TrodAll enc Try.prog W 0 (fun _ => true) true Try.f4.params.toList args.toList ds p := hA0
  rw [Try.params4] at hA hval
  obtain ⟨v0, vs0, d0, ds0, p0, q0, hargs, rfl, rfl, h0, r0⟩ := trodAll_cons hA
  obtain ⟨rfl, rfl, rfl⟩ := trodAll_nil r0
  obtain rfl : args = #[v0] := by cases args; simp_all
  obtain ⟨rfl, rfl⟩ := trodVars_none hV
  obtain ⟨a0, len0, cap0, rfl⟩ := okWide_slice Try.underlying33 (hval 0 33 v0 rfl rfl)
  have k0 := h0
  have lt0 : ∀ x ∈ p0, x.block < W.heap.size := by obtain ⟨m, hm⟩ := k0; exact DataW.trod_lt m _ _ _ hm
  obtain ⟨z0, w0⟩ : ∃ zs, IsBits W a0 len0 cap0 zs := by
    obtain ⟨fuel, hf⟩ := h0
    rcases Deep.open_bools Try.underlying33 Try.underlying4 (by kernel_rfl) hf with ⟨hcs, _⟩ | ⟨x, l, c, B, hcs, _, hl, hm, _, hcell⟩
    · simp [Value.cells] at hcs
      obtain ⟨rfl, rfl, rfl⟩ := hcs
      exact ⟨[], .inl ⟨rfl, rfl, rfl, rfl⟩⟩
    · simp [Value.cells] at hcs
      obtain ⟨rfl, rfl, rfl⟩ := hcs
      refine ⟨(List.range cap0).map B, .inr ⟨_, rfl, hl, hm, by simp, fun i hi => ?_⟩⟩
      have hi' : i < cap0 := by simpa using hi
      rw [hcell i hi']
      simp [List.getD, hi']
  clear hA0 hval0
  refine (walk a0 len0 cap0 z0 W w0).mono fun e W' ⟨he, bel⟩ => ?_
  subst he
  exact ⟨_, rfl, _, _, _, [], _, [], hW', trodAll_mk1 (shut_bool Try.underlying4 _), (trodAll_cons_mk (Below.trod laidOut (by kernel_rfl) (of_decide_eq_true (by kernel_rfl)) k0 bel lt0) trodAll_mk0), rfl, bel.frame _, fun h => by cases h⟩

theorem over : Rows.fnAppendBoolSequenceDecodesInOrderRow.holds Try.pinned (OpenSpec.ofChange Rows.fnAppendBoolSequenceDecodesInOrderSpec) :=
  OpenClaim.holds_of_wide 4 Try.f4 rfl rfl rfl rfl rfl rfl rfl ⟨rfl, rfl, rfl, rfl, rfl⟩ rfl rfl rfl rfl rfl (by kernel_rfl) Try.func4 (by kernel_rfl)
    (of_decide_eq_true (by kernel_rfl)) (by unfold Func.isWrapper; first | (rw [if_pos (by decide +kernel)]; kernel_rfl) | (rw [if_neg (by decide +kernel)]; exact ⟨rfl, rfl⟩))
    (fun os started H enc _ => lifted os started H enc)

/-- ████ THE STATEMENT ████ -/
theorem proved : Rows.FnAppendBoolSequenceDecodesInOrderSaid := over
end Go.Proofs.Qxb6600122a.fnAppendBoolSequenceDecodesInOrder
