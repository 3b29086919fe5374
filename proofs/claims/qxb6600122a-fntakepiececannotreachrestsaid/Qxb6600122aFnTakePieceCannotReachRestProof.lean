/-
  FnTakePieceCannotReachRest: the proof. The frame is the one that the skeleton tool wrote for this function; the walk is ours, over the contracts in Qxb6600122aReader, Clone, Live.
-/
import Derived.Test.Qxb6600122aLive
import Derived.ArgAppend
import Derived.WalkKit
import Derived.ProofKit
import Derived.OpenShut
import Derived.ShutString
import Derived.ChangeOld
import Derived.Below
namespace Go.Proofs.Qxb6600122a.fnTakePieceCannotReachRest
open Go.ChangeShapes Go.WideShapes Go.ChangeAt Go.RowKit
open Go.ChangeMaps (open_string shut_string)
set_option linter.unusedVariables false

theorem own : ownKnob Try.prog.godebug = none := by kernel_rfl
theorem laidOut : laidOutB Try.prog = true := by kernel_rfl

set_option maxHeartbeats 1000000 in
theorem walk_main (a0 : Option Addr) (len0 cap0 : Nat) (z0 : List Int) (n : Nat) (a2 : Int) (w : World) (w0 : IsRow .u8 w a0 len0 cap0 z0) (hlen : len0 ≤ 1048576) (hn : n < len0) :
    Calls Try.prog 6 #[.slice a0 len0 cap0, .int .i64 n, .int .u8 a2] w fun e w' => e = .returned (.bool true) ∧ Below w.heap.size w w' := by
  have hn' : (n : Int) < len0 := by omega
  have hn0 : (0 : Int) ≤ n := by omega
  have HL : Hid ((z0.take len0).length = len0) := (row_len w0).2
  have hml := (row_len w0).1
  obtain ⟨i0, hi, hz0, hz1, hz2⟩ := info_parts Try.info5
  go_enter Try.func6, Try.ntmps6
  go_wp2_with fail
  refine (zz23_yes _ _ _ _ _ _ hml hlen).mono ?_
  rintro e w' ⟨rfl, rfl⟩
  go_wp2_with fail
  refine (clone_bytes w0 hlen).mono ?_
  rintro e w1 ⟨a', rfl, hown, hbel⟩
  obtain ⟨g, rfl, hgB, hgs⟩ := own_split hown (by omega)
  obtain ⟨zs, hzs⟩ : ∃ zs, zs = z0.take len0 := ⟨_, rfl⟩
  rw [← hzs] at hown HL
  obtain ⟨z, hz⟩ : ∃ z, z = zs.getD n 0 := ⟨_, rfl⟩
  have hcz : w1.cell? ⟨g, n, none⟩ = some (.int .u8 z) := by rw [hz]; exact own_int hown n hn
  have HZ : Hid (z = zs.getD n 0) := hz
  clear hz hzs w0
  go_wp2_with fail
  refine (live_new hown hbel).mono ?_
  rintro e w2 ⟨R, rfl, hL⟩
  clear hown hbel hgB hgs hcz
  go_wp2_with fail
  refine (live_take hL n (by omega)).mono ?_
  rintro e w3 ⟨a, rfl, ha, hL3⟩
  obtain rfl := ha g rfl (by omega)
  clear ha hL
  go_wp2_with fail
  refine (live_failed hL3).mono ?_
  rintro e w' ⟨rfl, rfl⟩
  have hcs : ∀ j, j < len0 → w3.cell? ⟨g, j, none⟩ = some (.int .u8 (zs.getD j 0)) := fun j hj => hL3.cell j hj
  have hol : ((zs.take n).map (Value.int .u8)).length = n * 1 := by have := HL.out; simp; omega
  have hoc : ∀ b : Addr, some (⟨g, 0, none⟩ : Addr) = some b → ∀ j u, ((zs.take n).map (Value.int .u8))[j]? = some u → (w3.alloc (.cells #[.int .u8 a2] 5)).cell? (b.add j) = some u := by
    intro b hb j u hu
    obtain rfl := Option.some.inj hb
    have hj : j < n := by have := (List.getElem?_eq_some_iff.1 hu).1; simp at this; omega
    have h1 := hcs j (by omega)
    have h2 : u = .int .u8 (zs.getD j 0) := by
      have hz : j < zs.length := by have := HL.out; omega
      simp [hj, hz] at hu
      simp [List.getD, hz, ← hu]
    rw [Addr.add_lit, Nat.zero_add, h2]
    exact Lib.cell?_alloc_some _ h1
  have hnc : ∀ j u, ([.int .u8 a2] : List Value)[j]? = some u → (w3.alloc (.cells #[.int .u8 a2] 5)).cell? ((⟨w3.heap.size, 0, none⟩ : Addr).add j) = some u := cell_one_new _ _ _
  go_wp2_with (at_builtin; refine wpList_append_grows _ rfl _ _ 22 rfl 5 i0 (.int .u8 0) 1 1 Try.underlying22 hi hz0 hz1 hz2 rfl (by decide) (some ⟨g, 0, none⟩) n n ((zs.take n).map (Value.int .u8)) rfl (fun h => by cases h) hol hoc ⟨w3.heap.size, 0, none⟩ 1 1 [.int .u8 a2] rfl rfl hnc (ints_oneCell .u8 [a2]) (by omega) (by unfold maxLen; omega) (by omega) ?_)
  intro v' w4 hown4 hg4
  have hL4 : Live w w4 R (some ⟨g, 0, none⟩) len0 len0 zs n := by
    have := (hL3.grown (World.grownBy_alloc _ _ _)).grown hg4
    rwa [Nat.zero_add] at this
  obtain ⟨g4, c4, rfl, hb4, hs4, hnc4, hcm4⟩ := own_value hown4 (by omega)
  have hc4 : w4.cell? ⟨g4, n, none⟩ = some (.int .u8 a2) := by
    rw [hown4.cellAt n (by omega)]
    rw [List.getElem?_append_right (by simp; omega)]
    have := HL.out
    simp [show min n zs.length = n by omega]
  have hcz : w4.cell? ⟨g, n, none⟩ = some (.int .u8 z) := by rw [HZ.out]; exact hL4.cell n hn
  clear hown4 hg4 hL3 hoc hol hnc hcs
  go_wp2_with fail
  refine (live_rest hL4).mono ?_
  rintro e w' ⟨a, rfl, ha, rfl⟩
  obtain rfl := ha g rfl hn
  clear ha
  go_wp2_with fail
  refine (live_failed hL4).mono ?_
  rintro e w' ⟨rfl, rfl⟩
  go_wp2_with fail
  go_ret
  exact ⟨rfl, hL4.bel⟩

/-! ### The walk -/
set_option maxHeartbeats 1000000 in
theorem walk (a0 : Option Addr) (len0 cap0 : Nat) (z0 : List Int) (a1 : Int) (a2 : Int) (w : World) (w0 : IsRow .u8 w a0 len0 cap0 z0) (w1 : (Lit.int .i64 a1).wf = true) (w2 : (Lit.int .u8 a2).wf = true) :
    Calls Try.prog 6 #[.slice a0 len0 cap0, .int .i64 a1, .int .u8 a2] w fun e w' => e = .returned (.bool true) ∧ Below w.heap.size w w' := by
  have hml := (row_len w0).1
  by_cases hlen : len0 ≤ 1048576
  · by_cases hn : 0 ≤ a1 ∧ a1 < len0
    · obtain ⟨n, rfl⟩ := Int.eq_ofNat_of_zero_le hn.1
      exact walk_main a0 len0 cap0 z0 n a2 w w0 hlen (by omega)
    · clear w0
      by_cases hn0 : a1 < 0
      · go_enter Try.func6, Try.ntmps6
        go_wp2_with fail
        refine (zz23_yes _ _ _ _ _ _ hml hlen).mono ?_
        rintro e w' ⟨rfl, rfl⟩
        go_wp2_with fail
        go_ret
        exact ⟨rfl, Below.refl _ _⟩
      · have hn1 : (len0 : Int) ≤ a1 := by omega
        go_enter Try.func6, Try.ntmps6
        go_wp2_with fail
        refine (zz23_yes _ _ _ _ _ _ hml hlen).mono ?_
        rintro e w' ⟨rfl, rfl⟩
        go_wp2_with fail
        go_ret
        exact ⟨rfl, Below.refl _ _⟩
  · clear w0
    go_enter Try.func6, Try.ntmps6
    go_wp2_with fail
    refine (zz23_no _ _ _ _ _ _ hml hlen).mono ?_
    rintro e w' ⟨rfl, rfl⟩
    go_wp2_with fail
    go_ret
    exact ⟨rfl, Below.refl _ _⟩

/-! ### The row's step (the frame) -/
set_option maxRecDepth 100000 in
theorem lifted (os : Os) (started : os.Started) (H : Type) (enc : TypeId × Value → H) :
    ReturnsInHanded {} Try.checked os 6 .any (Rows.fnTakePieceCannotReachRestSpec.pre6 enc Try.prog Try.f6 Rows.fnTakePieceCannotReachRestRow.domain false) (Rows.fnTakePieceCannotReachRestSpec.post enc Try.prog Try.f6 false true false false) := by
  refine returnsInHanded_of_change (C := Try.checked) own started (by kernel_rfl) Try.func6
    (ChangeSpec.witness6 (enc := enc) (C := Try.checked) false ⟨#[], #[.slice none 0 0, .int .i64 0, .int .u8 0], []⟩ 8 (by kernel_rfl) (by kernel_rfl) (by kernel_rfl) (by kernel_rfl)) ?_
  intro W base args ds gs before hval0 hW hcnd _
  have hval : ∀ (j : Nat) t v, Try.f6.params[j]? = some t → args[j]? = some v → Value.okWide Try.prog W .any base t v := hval0
  have hW' := hW
  obtain ⟨p, q, hA0, hV, rfl, hfz, hnd⟩ := hW
  have hA : DataW.TrodAll enc Try.prog W 0 (fun _ => true) true Try.f6.params.toList args.toList ds p := hA0
  rw [Try.params6] at hA hval
  obtain ⟨v0, vs0, d0, ds0, p0, q0, hargs, rfl, rfl, h0, r0⟩ := trodAll_cons hA
  obtain ⟨v1, vs1, d1, ds1, p1, q1, rfl, rfl, rfl, h1, r1⟩ := trodAll_cons r0
  obtain ⟨v2, vs2, d2, ds2, p2, q2, rfl, rfl, rfl, h2, r2⟩ := trodAll_cons r1
  obtain ⟨rfl, rfl, rfl⟩ := trodAll_nil r2
  obtain rfl : args = #[v0, v1, v2] := by cases args; simp_all
  obtain ⟨rfl, rfl⟩ := trodVars_none hV
  obtain ⟨a0, len0, cap0, rfl⟩ := okWide_slice Try.underlying22 (hval 0 22 v0 rfl rfl)
  have k0 := h0
  have lt0 : ∀ x ∈ p0, x.block < W.heap.size := by obtain ⟨m, hm⟩ := k0; exact DataW.trod_lt m _ _ _ hm
  obtain ⟨z0, w0⟩ : ∃ zs, IsRow .u8 W a0 len0 cap0 zs := by
    obtain ⟨fuel, hf⟩ := h0
    rcases open_ints Try.underlying22 Try.underlying5 (by kernel_rfl) hf with ⟨hcs, _⟩ | ⟨x, l, c, zs, hcs, _, hl, hm, hz, _, hcell, hwz⟩
    · simp [Value.cells] at hcs
      obtain ⟨rfl, rfl, rfl⟩ := hcs
      exact ⟨[], .inl ⟨rfl, rfl, rfl, rfl⟩⟩
    · simp [Value.cells] at hcs
      obtain ⟨rfl, rfl, rfl⟩ := hcs
      exact ⟨zs, .inr ⟨_, rfl, hl, hm, by simpa using hz, hcell, hwz⟩⟩
  obtain ⟨a1, rfl, rfl, rfl, w1⟩ := open_int Try.underlying3 (hval 1 3 v1 rfl rfl) h1
  obtain ⟨a2, rfl, rfl, rfl, w2⟩ := open_int Try.underlying5 (hval 2 5 v2 rfl rfl) h2
  clear hA0 hval0
  refine (walk a0 len0 cap0 z0 a1 a2 W w0 w1 w2).mono fun e W' ⟨he, bel⟩ => ?_
  subst he
  exact ⟨_, rfl, _, _, _, [], _, [], hW', trodAll_mk1 (shut_bool Try.underlying4 _), (trodAll_cons_mk (Below.trod laidOut (by kernel_rfl) (of_decide_eq_true (by kernel_rfl)) k0 bel lt0) (trodAll_cons_mk (shut_int Try.underlying3 w1) (trodAll_cons_mk (shut_int Try.underlying5 w2) trodAll_mk0))), rfl, bel.frame _, fun h => by cases h⟩

theorem over : Rows.fnTakePieceCannotReachRestRow.holds Try.pinned (OpenSpec.ofChange Rows.fnTakePieceCannotReachRestSpec) :=
  OpenClaim.holds_of_wide 6 Try.f6 rfl rfl rfl rfl rfl rfl rfl ⟨rfl, rfl, rfl, rfl, rfl⟩ rfl rfl rfl rfl rfl (by kernel_rfl) Try.func6 (by kernel_rfl)
    (of_decide_eq_true (by kernel_rfl)) (by unfold Func.isWrapper; first | (rw [if_pos (by decide +kernel)]; kernel_rfl) | (rw [if_neg (by decide +kernel)]; exact ⟨rfl, rfl⟩))
    (fun os started H enc _ => lifted os started H enc)

/-- ████ THE STATEMENT ████ -/
theorem proved : Rows.FnTakePieceCannotReachRestSaid := over
end Go.Proofs.Qxb6600122a.fnTakePieceCannotReachRest
