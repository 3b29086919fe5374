/-
  FnTakeScriptMatchesOffsetModel: the proof. The frame is the one that the skeleton tool wrote for this function; the walk is ours, over the contracts in Qxb6600122aReader, Clone, Live.
-/
import Derived.Test.Qxb6600122aLive
import Derived.Test.Qxb6600122aMore
import Derived.WalkLawsBesides
import Derived.Deep.LoopGhost
import Derived.WalkKit
import Derived.ProofKit
import Derived.OpenShut
import Derived.ShutString
import Derived.ChangeOld
import Derived.Below
namespace Go.Proofs.Qxb6600122a.fnTakeScriptMatchesOffsetModel
open Go.ChangeShapes Go.WideShapes Go.ChangeAt Go.RowKit
open Go.ChangeMaps (open_string shut_string)
set_option linter.unusedVariables false

theorem own : ownKnob Try.prog.godebug = none := by kernel_rfl
theorem laidOut : laidOutB Try.prog = true := by kernel_rfl

theorem row_below {k : IntKind} {w w1 : World} {a : Option Addr} {len cap : Nat} {zs : List Int} (h : IsRow k w a len cap zs) (hb : Below w.heap.size w w1) : IsRow k w1 a len cap zs := by
  rcases h with h | ⟨x, h1, h2, h3, h4, h5, h6⟩
  · exact .inl h
  · exact .inr ⟨x, h1, h2, h3, h4, fun i hi => (hb.cell (block_lt_of_cell (h5 i hi))).trans (h5 i hi), h6⟩

set_option maxHeartbeats 400000 in
theorem zz21_yes (a b : Option Addr) (len0 cap0 len1 cap1 : Nat) (w : World) (h : len0 + len1 ≤ 1048576) :
    Calls Try.prog 21 #[.slice a len0 cap0, .slice b len1 cap1] w fun e w' => e = .returned (.bool true) ∧ w = w' := by
  have h0 : (len0 : Int) ≤ 1048576 := by omega
  have h1 : (len1 : Int) ≤ 1048576 := by omega
  have h2 : (len0 : Int) + len1 ≤ 1048576 := by omega
  go_enter Try.func21, Try.ntmps21
  go_wp2
  go_ret
  exact ⟨rfl, rfl⟩
set_option maxHeartbeats 400000 in
theorem zz21_no (a b : Option Addr) (len0 cap0 len1 cap1 : Nat) (w : World) (hm0 : len0 ≤ maxLen) (hm1 : len1 ≤ maxLen) (h : ¬ len0 + len1 ≤ 1048576) :
    Calls Try.prog 21 #[.slice a len0 cap0, .slice b len1 cap1] w fun e w' => e = .returned (.bool false) ∧ w = w' := by
  unfold maxLen at hm0 hm1
  by_cases h0 : len0 ≤ 1048576
  · by_cases h1 : len1 ≤ 1048576
    · have h2 : (1048576 : Int) < (len0 : Int) + len1 := by omega
      go_enter Try.func21, Try.ntmps21
      go_wp2
      go_ret
      exact ⟨rfl, rfl⟩
    · go_enter Try.func21, Try.ntmps21
      go_wp2
      go_ret
      exact ⟨rfl, rfl⟩
  · go_enter Try.func21, Try.ntmps21
    go_wp2
    go_ret
    exact ⟨rfl, rfl⟩

set_option maxRecDepth 20000 in
set_option maxHeartbeats 4000000 in
theorem walk_main (a0 : Option Addr) (len0 cap0 : Nat) (z0 : List Int) (a1 : Option Addr) (len1 cap1 : Nat) (z1 : List Int) (w : World) (w0 : IsRow .u8 w a0 len0 cap0 z0) (w1 : IsRow .i64 w a1 len1 cap1 z1) (hlen : len0 + 8 * len1 ≤ 1048576) :
    Calls Try.prog 5 #[.slice a0 len0 cap0, .slice a1 len1 cap1] w fun e w' => e = .returned (.bool true) ∧ Below w.heap.size w w' := by
  have hneq := fun (w : World) (a : Option Addr) (n c : Nat) => run_neq_slice_nil (P := Try.prog) w 22 5 a n c Try.underlying22
  have hl0 : (len0 : Int) ≤ 1048576 := by omega
  have hl1 : (len1 : Int) ≤ 131072 := by omega
  have hl2 : (len0 : Int) + 8 * len1 ≤ 1048576 := by omega
  go_enter Try.func5, Try.ntmps5
  go_wp2_with fail
  refine (zz21_yes _ _ _ _ _ _ _ (by omega)).mono ?_
  rintro e w' ⟨rfl, rfl⟩
  go_wp2_with fail
  refine (clone_bytes w0 (by omega)).mono ?_
  rintro e w2 ⟨av, rfl, hown, hbel⟩
  have w1' := row_below w1 hbel
  obtain ⟨zs, hzs⟩ : ∃ zs, zs = z0.take len0 := ⟨_, rfl⟩
  rw [← hzs] at hown
  clear hzs w0 w1
  go_wp2_with fail
  refine (clone_ints w1' (by omega)).mono ?_
  rintro e w3 ⟨bv, rfl, hown3, hbel3⟩
  obtain ⟨ms, hms⟩ : ∃ ms, ms = z1.take len1 := ⟨_, rfl⟩
  rw [← hms] at hown3
  clear hms w1'
  have hown0 : w3.ownsRow w.heap.size 5 1 (.slice av len0 len0) len0 (zs.map (Value.int .u8)) := by
    refine ⟨hown.1, ?_⟩
    rcases hown.2 with h | ⟨g, cap, cur, h1, h2, h3, h4⟩
    · exact .inl h
    · exact .inr ⟨g, cap, cur, h1, h2, by rw [hbel3.block g (lt_of_block h3)]; exact h3, h4⟩
  have hb3 : Below w.heap.size w w3 := hbel.trans (hbel3.mono hbel.size)
  have HB3 : Hid (Below w.heap.size w w3) := hb3
  obtain ⟨gm, hbv⟩ : ∃ gm, 0 < len1 → bv = some ⟨gm, 0, none⟩ := by
    rcases own_shape hown3 with ⟨_, h, _⟩ | ⟨gm, h, _⟩
    · exact ⟨0, fun h' => by omega⟩
    · exact ⟨gm, fun _ => h⟩
  obtain ⟨gb, hav⟩ : ∃ gb, 0 < len0 → av = some ⟨gb, 0, none⟩ := by
    rcases own_shape hown0 with ⟨_, h, _⟩ | ⟨gb, h, _⟩
    · exact ⟨0, fun h' => by omega⟩
    · exact ⟨gb, fun _ => h⟩
  have HM : Hid (∀ j, j < len1 → w3.cell? ⟨gm, j, none⟩ = some (.int .i64 (ms.getD j 0))) := by
    intro j hj
    have := hbv (by omega)
    subst this
    exact own_int hown3 j hj
  clear hown hown3 hbel hbel3 hb3
  go_wp2_with fail
  refine (live_new (w0 := w3) hown0 (Below.refl _ _)).mono ?_
  rintro e w4 ⟨R, rfl, hL⟩
  clear hown0
  go_wp2_with fail
  go_loopg [6, 7, 8] len1 (fun gg pos dead i wr => ∃ k P : Nat, k ≤ len1 ∧ gg = len1 - k ∧ i = .int .i64 k ∧ pos = .int .i64 P ∧ ((dead = .bool false ∧ Live w3 wr R av len0 len0 zs P) ∨ (dead = .bool true ∧ Dead w3 wr R av len0 len0 zs)))
  case atStart => exact ⟨0, 0, Nat.zero_le _, rfl, rfl, rfl, .inl ⟨rfl, hL⟩⟩
  case round =>
    obtain ⟨k, P, hk, rfl, rfl, rfl, hst⟩ := hrel
    clear hL
    by_cases hlt : k < len1
    · obtain rfl := hbv (by omega)
      clear hbv
      obtain ⟨x, hx⟩ : ∃ x, x = ms.getD k 0 := ⟨_, rfl⟩
      have hc3 : w3.cell? ⟨gm, k, none⟩ = some (.int .i64 x) := by rw [hx]; exact HM.out k hlt
      clear hx
      rcases hst with ⟨rfl, hLv⟩ | ⟨rfl, hD⟩
      · have hc : wr.cell? ⟨gm, k, none⟩ = some (.int .i64 x) := (hLv.bel.cell (block_lt_of_cell hc3)).trans hc3
        clear hc3
        have hP : P ≤ len0 := hLv.1
        by_cases hx : 0 ≤ x ∧ x ≤ (len0 : Int) - P
        · obtain ⟨q, rfl⟩ := Int.eq_ofNat_of_zero_le hx.1
          have hq : P + q ≤ len0 := by omega
          have hq1 : (q : Int) ≤ (len0 : Int) - P := hx.2
          have HT : Hid (Calls Try.prog 14 #[.pointer (some ⟨R, 0, none⟩), .int .i64 q] wr fun e w' => ∃ a, e = .returned (.slice a q q) ∧ (∀ g, av = some ⟨g, 0, none⟩ → P < len0 → a = some ⟨g, P, none⟩) ∧ Live w3 w' R av len0 len0 zs (P + q)) := live_take hLv q (by omega)
          clear hLv hx
          go_wp2_with fail
          refine HT.out.mono ?_
          rintro e w5 ⟨a, rfl, ha, hL5⟩
          have HA : Hid (∀ g, av = some ⟨g, 0, none⟩ → P < len0 → a = some ⟨g, P, none⟩) := ha
          clear HT ha hc
          go_wp2_with fail
          refine (live_failed hL5).mono ?_
          rintro e w' ⟨rfl, rfl⟩
          go_wp2_with fail
          go_loopg [11] q (fun gg j wq => ∃ jj : Nat, jj ≤ q ∧ gg = q - jj ∧ j = .int .i64 jj ∧ Live w3 wq R av len0 len0 zs (P + q))
          case atStart => exact ⟨0, Nat.zero_le _, rfl, rfl, hL5⟩
          case round =>
            obtain ⟨jj, hjj, rfl, rfl, hL6⟩ := hrel
            clear hL5
            by_cases hjl : jj < q
            · obtain rfl := hav (by omega)
              obtain rfl := HA.out gb rfl (by omega)
              obtain ⟨z, hz⟩ : ∃ z, z = zs.getD (P + jj) 0 := ⟨_, rfl⟩
              have c1 : wr.cell? ⟨gb, P + jj, none⟩ = some (.int .u8 z) := by rw [hz]; exact hL6.cell (P + jj) (by omega)
              have hj1 : (jj : Int) < q := by omega
              have hj2 : (P : Int) + jj < len0 := by omega
              clear hz hav HA
              have c2 : wr.cell? ⟨gb, ((P : Int) + (jj : Int)).toNat, none⟩ = some (.int .u8 z) := by rw [show ((P : Int) + (jj : Int)).toNat = P + jj by omega]; exact c1
              have hj0 : (0 : Int) ≤ (P : Int) + jj := by omega
              go_wp2_with fail
              go_quiet (fail)
              go_wp2
              go_roundg (q - (jj + 1))
              case rel => exact ⟨jj + 1, by omega, rfl, by go_num, hL6.grown (grownBy_drewN _ _ _)⟩
              case measure => omega
            · clear HA
              go_wp2_with fail
              refine (live_rest hL6).mono ?_
              rintro e w' ⟨a6, rfl, _, rfl⟩
              go_wp2_with fail
              go_roundg (len1 - (k + 1))
              case rel => exact ⟨k + 1, P + q, by omega, rfl, by go_num, by go_num, .inl ⟨rfl, hL6⟩⟩
              case measure => omega
        · have HT : Hid (Calls Try.prog 14 #[.pointer (some ⟨R, 0, none⟩), .int .i64 x] wr fun e w' => e = .returned (.slice none 0 0) ∧ Dead w3 w' R av len0 len0 zs) := live_take_bad hLv x (by omega)
          clear hLv
          rcases (show x < 0 ∨ (0 ≤ x ∧ (len0 : Int) - P < x) by omega) with hx1 | ⟨hx1, hx2⟩
          all_goals
            clear hx
            go_wp2_with fail
            refine HT.out.mono ?_
            rintro e w5 ⟨rfl, hD⟩
            clear HT hc
            go_wp2_with fail
            refine (dead_failed hD).mono ?_
            rintro e w' ⟨rfl, rfl⟩
            go_wp2_with fail
            refine (dead_rest hD).mono ?_
            rintro e w' ⟨rfl, rfl⟩
            go_wp2_with fail
            go_roundg (len1 - (k + 1))
            case rel => exact ⟨k + 1, P, by omega, rfl, by go_num, rfl, .inr ⟨rfl, hD⟩⟩
            case measure => omega
      · have hc : wr.cell? ⟨gm, k, none⟩ = some (.int .i64 x) := (hD.bel.cell (block_lt_of_cell hc3)).trans hc3
        clear hc3
        go_wp2_with fail
        refine (dead_take hD x).mono ?_
        rintro e w5 ⟨rfl, hD5⟩
        clear hD hc
        go_wp2_with fail
        refine (dead_failed hD5).mono ?_
        rintro e w' ⟨rfl, rfl⟩
        go_wp2_with fail
        refine (dead_rest hD5).mono ?_
        rintro e w' ⟨rfl, rfl⟩
        go_wp2_with fail
        go_roundg (len1 - (k + 1))
        case rel => exact ⟨k + 1, P, by omega, rfl, by go_num, rfl, .inr ⟨rfl, hD5⟩⟩
        case measure => omega
    · clear hbv HM
      rcases hst with ⟨rfl, hLv⟩ | ⟨rfl, hD⟩
      · have hP : P ≤ len0 := hLv.1
        go_wp2_with fail
        refine (live_rest hLv).mono ?_
        rintro e w' ⟨a, rfl, ha, rfl⟩
        have HA : Hid (∀ g, av = some ⟨g, 0, none⟩ → P < len0 → a = some ⟨g, P, none⟩) := ha
        clear ha
        go_wp2_with fail
        go_loopg [13] (len0 - P) (fun gg j wq => ∃ jj : Nat, jj ≤ len0 - P ∧ gg = len0 - P - jj ∧ j = .int .i64 jj ∧ Live w3 wq R av len0 len0 zs P)
        case atStart => exact ⟨0, Nat.zero_le _, rfl, rfl, hLv⟩
        case round =>
          obtain ⟨jj, hjj, rfl, rfl, hL6⟩ := hrel
          clear hLv
          by_cases hjl : jj < len0 - P
          · obtain rfl := hav (by omega)
            obtain rfl := HA.out gb rfl (by omega)
            obtain ⟨z, hz⟩ : ∃ z, z = zs.getD (P + jj) 0 := ⟨_, rfl⟩
            have c1 : wr.cell? ⟨gb, P + jj, none⟩ = some (.int .u8 z) := by rw [hz]; exact hL6.cell (P + jj) (by omega)
            have hj1 : (jj : Int) < ((len0 - P : Nat) : Int) := by omega
            have hj2 : (P : Int) + jj < len0 := by omega
            have c2 : wr.cell? ⟨gb, ((P : Int) + (jj : Int)).toNat, none⟩ = some (.int .u8 z) := by rw [show ((P : Int) + (jj : Int)).toNat = P + jj by omega]; exact c1
            have hj0 : (0 : Int) ≤ (P : Int) + jj := by omega
            clear hz hav HA
            go_wp2_with fail
            go_quiet (fail)
            go_wp2
            go_roundg (len0 - P - (jj + 1))
            case rel => exact ⟨jj + 1, by omega, rfl, by go_num, hL6.grown (grownBy_drewN _ _ _)⟩
            case measure => omega
          · clear HA
            go_wp2_with fail
            go_ret
            exact ⟨rfl, HB3.out.trans (hL6.bel.mono HB3.out.size)⟩
      · go_wp2_with fail
        go_ret
        exact ⟨rfl, HB3.out.trans (hD.bel.mono HB3.out.size)⟩

/-! ### The walk -/
set_option maxHeartbeats 1000000 in
theorem walk (a0 : Option Addr) (len0 cap0 : Nat) (z0 : List Int) (a1 : Option Addr) (len1 cap1 : Nat) (z1 : List Int) (w : World) (w0 : IsRow .u8 w a0 len0 cap0 z0) (w1 : IsRow .i64 w a1 len1 cap1 z1) :
    Calls Try.prog 5 #[.slice a0 len0 cap0, .slice a1 len1 cap1] w fun e w' => e = .returned (.bool true) ∧ Below w.heap.size w w' := by
  have hm0 := (row_len w0).1
  have hm1 := (row_len w1).1
  by_cases h1 : len0 + len1 ≤ 1048576
  · by_cases h2 : len1 ≤ 131072
    · by_cases h3 : len0 + 8 * len1 ≤ 1048576
      · exact walk_main a0 len0 cap0 z0 a1 len1 cap1 z1 w w0 w1 h3
      · clear w0 w1
        have g0 : (len0 : Int) ≤ 1048576 := by omega
        have g1 : (len1 : Int) ≤ 131072 := by omega
        have g2 : (1048576 : Int) < (len0 : Int) + 8 * len1 := by omega
        go_enter Try.func5, Try.ntmps5
        go_wp2_with fail
        refine (zz21_yes _ _ _ _ _ _ _ h1).mono ?_
        rintro e w' ⟨rfl, rfl⟩
        go_wp2_with fail
        go_ret
        exact ⟨rfl, Below.refl _ _⟩
    · clear w0 w1
      have g0 : (len0 : Int) ≤ 1048576 := by omega
      have g1 : (131072 : Int) < (len1 : Int) := by omega
      go_enter Try.func5, Try.ntmps5
      go_wp2_with fail
      refine (zz21_yes _ _ _ _ _ _ _ h1).mono ?_
      rintro e w' ⟨rfl, rfl⟩
      go_wp2_with fail
      go_ret
      exact ⟨rfl, Below.refl _ _⟩
  · clear w0 w1
    go_enter Try.func5, Try.ntmps5
    go_wp2_with fail
    refine (zz21_no _ _ _ _ _ _ _ hm0 hm1 h1).mono ?_
    rintro e w' ⟨rfl, rfl⟩
    go_wp2_with fail
    go_ret
    exact ⟨rfl, Below.refl _ _⟩

/-! ### The row's step (the frame) -/
set_option maxRecDepth 100000 in
theorem lifted (os : Os) (started : os.Started) (H : Type) (enc : TypeId × Value → H) :
    ReturnsInHanded {} Try.checked os 5 .any (Rows.fnTakeScriptMatchesOffsetModelSpec.pre6 enc Try.prog Try.f5 Rows.fnTakeScriptMatchesOffsetModelRow.domain false) (Rows.fnTakeScriptMatchesOffsetModelSpec.post enc Try.prog Try.f5 false true false false) := by
  refine returnsInHanded_of_change (C := Try.checked) own started (by kernel_rfl) Try.func5
    (ChangeSpec.witness6 (enc := enc) (C := Try.checked) false ⟨#[], #[.slice none 0 0, .slice none 0 0], []⟩ 8 (by kernel_rfl) (by kernel_rfl) (by kernel_rfl) (by kernel_rfl)) ?_
  intro W base args ds gs before hval0 hW hcnd _
  have hval : ∀ (j : Nat) t v, Try.f5.params[j]? = some t → args[j]? = some v → Value.okWide Try.prog W .any base t v := hval0
  have hW' := hW
  obtain ⟨p, q, hA0, hV, rfl, hfz, hnd⟩ := hW
  have hA : DataW.TrodAll enc Try.prog W 0 (fun _ => true) true Try.f5.params.toList args.toList ds p := hA0
  rw [Try.params5] at hA hval
  obtain ⟨v0, vs0, d0, ds0, p0, q0, hargs, rfl, rfl, h0, r0⟩ := trodAll_cons hA
  obtain ⟨v1, vs1, d1, ds1, p1, q1, rfl, rfl, rfl, h1, r1⟩ := trodAll_cons r0
  obtain ⟨rfl, rfl, rfl⟩ := trodAll_nil r1
  obtain rfl : args = #[v0, v1] := by cases args; simp_all
  obtain ⟨rfl, rfl⟩ := trodVars_none hV
  obtain ⟨a0, len0, cap0, rfl⟩ := okWide_slice Try.underlying22 (hval 0 22 v0 rfl rfl)
  have k0 := h0
  have lt0 : ∀ x ∈ p0, x.block < W.heap.size := by obtain ⟨m, hm⟩ := k0; exact DataW.trod_lt m _ _ _ hm
  obtain ⟨z0, w0⟩ : ∃ zs, IsRow .u8 W a0 len0 cap0 zs := by
    obtain ⟨fuel, hf⟩ := h0
    rcases open_ints Try.underlying22 Try.underlying5 (by kernel_rfl) hf with ⟨hcs, _⟩ | ⟨x, l, c, zs, hcs, _, hl, hm, hz, _, hcell, hwz⟩
    · simp [Value.cells] at hcs
      obtain ⟨rfl, rfl, rfl⟩ := hcs
      exact ⟨[], .inl ⟨rfl, rfl, rfl, rfl⟩⟩
    · simp [Value.cells] at hcs
      obtain ⟨rfl, rfl, rfl⟩ := hcs
      exact ⟨zs, .inr ⟨_, rfl, hl, hm, by simpa using hz, hcell, hwz⟩⟩
  obtain ⟨a1, len1, cap1, rfl⟩ := okWide_slice Try.underlying36 (hval 1 36 v1 rfl rfl)
  have k1 := h1
  have lt1 : ∀ x ∈ p1, x.block < W.heap.size := by obtain ⟨m, hm⟩ := k1; exact DataW.trod_lt m _ _ _ hm
  obtain ⟨z1, w1⟩ : ∃ zs, IsRow .i64 W a1 len1 cap1 zs := by
    obtain ⟨fuel, hf⟩ := h1
    rcases open_ints Try.underlying36 Try.underlying3 (by kernel_rfl) hf with ⟨hcs, _⟩ | ⟨x, l, c, zs, hcs, _, hl, hm, hz, _, hcell, hwz⟩
    · simp [Value.cells] at hcs
      obtain ⟨rfl, rfl, rfl⟩ := hcs
      exact ⟨[], .inl ⟨rfl, rfl, rfl, rfl⟩⟩
    · simp [Value.cells] at hcs
      obtain ⟨rfl, rfl, rfl⟩ := hcs
      exact ⟨zs, .inr ⟨_, rfl, hl, hm, by simpa using hz, hcell, hwz⟩⟩
  clear hA0 hval0
  refine (walk a0 len0 cap0 z0 a1 len1 cap1 z1 W w0 w1).mono fun e W' ⟨he, bel⟩ => ?_
  subst he
  exact ⟨_, rfl, _, _, _, [], _, [], hW', trodAll_mk1 (shut_bool Try.underlying4 _), (trodAll_cons_mk (Below.trod laidOut (by kernel_rfl) (of_decide_eq_true (by kernel_rfl)) k0 bel lt0) (trodAll_cons_mk (Below.trod laidOut (by kernel_rfl) (of_decide_eq_true (by kernel_rfl)) k1 bel lt1) trodAll_mk0)), rfl, bel.frame _, fun h => by cases h⟩

theorem over : Rows.fnTakeScriptMatchesOffsetModelRow.holds Try.pinned (OpenSpec.ofChange Rows.fnTakeScriptMatchesOffsetModelSpec) :=
  OpenClaim.holds_of_wide 5 Try.f5 rfl rfl rfl rfl rfl rfl rfl ⟨rfl, rfl, rfl, rfl, rfl⟩ rfl rfl rfl rfl rfl (by kernel_rfl) Try.func5 (by kernel_rfl)
    (of_decide_eq_true (by kernel_rfl)) (by unfold Func.isWrapper; first | (rw [if_pos (by decide +kernel)]; kernel_rfl) | (rw [if_neg (by decide +kernel)]; exact ⟨rfl, rfl⟩))
    (fun os started H enc _ => lifted os started H enc)

/-- ████ THE STATEMENT ████ -/
theorem proved : Rows.FnTakeScriptMatchesOffsetModelSaid := over
end Go.Proofs.Qxb6600122a.fnTakeScriptMatchesOffsetModel
