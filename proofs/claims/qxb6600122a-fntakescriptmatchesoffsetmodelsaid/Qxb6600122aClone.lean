/-
  Contracts of cloneBytes (11), cloneBools (20), cloneInts (22): a new row that the call owns, with the argument's elements; nothing old has turned.
-/
import Derived.Test.Qxb6600122aReader
import Derived.OwnWalk
namespace Go.Proofs.Qxb6600122a
open Go.ChangeShapes Go.WideShapes Go.ChangeAt Go.RowKit
set_option linter.unusedVariables false

theorem Try.info5 : (Try.prog.info? 5).map (fun i => (i.zero, i.size, i.bytes)) = some (some (.int .u8 0), 1, 1) := by kernel_rfl
theorem Try.info4 : (Try.prog.info? 4).map (fun i => (i.zero, i.size, i.bytes)) = some (some (.bool false), 1, 1) := by kernel_rfl
theorem Try.info3 : (Try.prog.info? 3).map (fun i => (i.zero, i.size, i.bytes)) = some (some (.int .i64 0), 1, 8) := by kernel_rfl

/-- The clone's cells behind k rounds. -/
def half (vs zs : List Value) (k : Nat) : List Value := vs.take k ++ zs.drop k
theorem half_step (vs zs : List Value) (k : Nat) (u : Value) (hk : k < zs.length) (hu : vs[k]? = some u) : (half vs zs k).set k u = half vs zs (k + 1) := by
  obtain ⟨h, hu'⟩ := List.getElem?_eq_some_iff.1 hu
  have hl : (vs.take k).length = k := by simp; omega
  unfold half
  rw [List.set_append_right _ _ (by omega), hl, Nat.sub_self, List.drop_eq_getElem_cons hk, List.set_cons_zero, List.take_succ_eq_append_getElem h, hu']
  simp
theorem half_all (vs zs : List Value) (k : Nat) (hv : vs.length = k) (hz : zs.length = k) : half vs zs k = vs := by
  unfold half; rw [List.take_of_length_le (by omega), List.drop_of_length_le (by omega)]; simp
theorem half_getElem (vs zs : List Value) (k : Nat) (hv : vs.length = zs.length) (hk : k < zs.length) : ∃ u, (half vs zs k)[k]? = some u := by
  refine ⟨zs[k], ?_⟩
  unfold half
  rw [List.getElem?_append_right (by simp; omega)]
  have hl : (vs.take k).length = k := by simp; omega
  simp [hl]

theorem cell_below {B : Nat} {w wr : World} (hb : Below w.heap.size w wr) {p : Addr} {v : Value} (h : w.cell? p = some v) : wr.cell? p = some v := (hb.cell (block_lt_of_cell h)).trans h

set_option maxHeartbeats 400000 in
theorem clone_bytes_some (x : Addr) (len cap : Nat) (zs : List Int) (w : World) (hlen : len ≤ 1048576) (hz : zs.length = len) (hc : ∀ i, i < len → w.cell? (x.add i) = some (.int .u8 (zs.getD i 0))) :
    Calls Try.prog 11 #[.slice (some x) len cap] w fun e w' => ∃ g, e = .returned (.slice (some ⟨g, 0, none⟩) len len) ∧ w'.ownsRow w.heap.size 5 1 (.slice (some ⟨g, 0, none⟩) len len) len (zs.map (Value.int .u8)) ∧ Below w.heap.size w w' := by
  have hnil := fun (w : World) (a : Option Addr) (n c : Nat) => Lib.run_eql_slice_nil (P := Try.prog) w 22 5 a n c 0 0 Try.underlying22
  obtain ⟨i0, hi, hz0, hz1, hz2⟩ := info_parts Try.info5
  go_enter Try.func11, Try.ntmps11
  go_wp2_with (at_make; refine wpList_make_full _ rfl _ _ 22 rfl w.heap.size 5 i0 (.int .u8 0) 1 Try.underlying22 hi hz0 hz1 _ _ _ _ len rfl rfl rfl rfl ?c1 ?c2 ?c3 ?_)
  case c1 => rw [hz2]; omega
  case c2 => unfold maxLen; omega
  case c3 => exact Nat.le_refl _
  intro w1 hown hgrow
  have hbel : Below w.heap.size w w1 := (Below.refl _ _).grown hgrow (Nat.le_refl _) (fun k h => by cases h)
  obtain ⟨zz, hown'⟩ : ∃ zz, w1.ownsRow w.heap.size 5 1 (.slice (some ⟨w.heap.size, 0, none⟩) len len) len zz := ⟨_, hown⟩
  have hzl : zz.length = len := by simpa using hown'.1
  clear hown hgrow
  go_wp2_with fail
  go_loopw [4] (fun i wr => ∃ k : Nat, k ≤ len ∧ i = .int .i64 k ∧ wr.ownsRow w.heap.size 5 1 (.slice (some ⟨w.heap.size, 0, none⟩) len len) len (half (zs.map (Value.int .u8)) zz k) ∧ Below w.heap.size w wr) (fun i _ => len - (intOf i).toNat)
  case atStart => exact ⟨0, Nat.zero_le _, rfl, by simpa [half] using hown', hbel⟩
  case round =>
    obtain ⟨k, hk, rfl, how, hb⟩ := hrel
    clear hown' hbel
    by_cases hlt : k < len
    · obtain ⟨z, hzk⟩ : ∃ z, zs[k]? = some z := ⟨_, List.getElem?_eq_getElem (by omega)⟩
      have hgd : zs.getD k 0 = z := by simp [List.getD, hzk]
      have hck := hc k hlt
      rw [hgd] at hck
      have hcx : wr.cell? (x.add k) = some (.int .u8 z) := (hb.cell (block_lt_of_cell hck)).trans hck
      obtain ⟨u, hu⟩ := half_getElem (zs.map (Value.int .u8)) zz k (by simp [hz, hzl]) (by omega)
      have hcu : wr.cell? ⟨w.heap.size, k, none⟩ = some u := by rw [how.cellAt k (by omega)]; exact hu
      have hfu := how.frozenAt k
      have HS := how.stored k (.int .u8 z)
      have HE : Hid ((half (zs.map (Value.int .u8)) zz k).set k (.int .u8 z) = half (zs.map (Value.int .u8)) zz (k + 1)) := half_step _ _ _ _ (by omega) (by simp [hzk])
      clear hu how hzk hgd hck hc
      go_wp2
      go_roundw
      case rel => exact ⟨k + 1, by omega, by go_num, by rw [← HE.out]; exact HS.1, hb.setCell (Nat.le_refl _) _⟩
      case measure => simp [intOf]; omega
    · go_wp2
      go_ret
      have hk' : k = len := by omega
      subst hk'
      exact ⟨_, rfl, by rw [half_all _ _ _ (by simp [hz]) hzl] at how; exact how, hb⟩
set_option maxHeartbeats 400000 in
theorem clone_bools_some (x : Addr) (len cap : Nat) (zs : List Bool) (w : World) (hlen : len ≤ 1048576) (hz : zs.length = len) (hc : ∀ i, i < len → w.cell? (x.add i) = some (.bool (zs.getD i false))) :
    Calls Try.prog 20 #[.slice (some x) len cap] w fun e w' => ∃ g, e = .returned (.slice (some ⟨g, 0, none⟩) len len) ∧ w'.ownsRow w.heap.size 4 1 (.slice (some ⟨g, 0, none⟩) len len) len (zs.map (Value.bool)) ∧ Below w.heap.size w w' := by
  have hnil := fun (w : World) (a : Option Addr) (n c : Nat) => Lib.run_eql_slice_nil (P := Try.prog) w 33 4 a n c 0 0 Try.underlying33
  obtain ⟨i0, hi, hz0, hz1, hz2⟩ := info_parts Try.info4
  go_enter Try.func20, Try.ntmps20
  go_wp2_with (at_make; refine wpList_make_full _ rfl _ _ 33 rfl w.heap.size 4 i0 (.bool false) 1 Try.underlying33 hi hz0 hz1 _ _ _ _ len rfl rfl rfl rfl ?c1 ?c2 ?c3 ?_)
  case c1 => rw [hz2]; omega
  case c2 => unfold maxLen; omega
  case c3 => exact Nat.le_refl _
  intro w1 hown hgrow
  have hbel : Below w.heap.size w w1 := (Below.refl _ _).grown hgrow (Nat.le_refl _) (fun k h => by cases h)
  obtain ⟨zz, hown'⟩ : ∃ zz, w1.ownsRow w.heap.size 4 1 (.slice (some ⟨w.heap.size, 0, none⟩) len len) len zz := ⟨_, hown⟩
  have hzl : zz.length = len := by simpa using hown'.1
  clear hown hgrow
  go_wp2_with fail
  go_loopw [4] (fun i wr => ∃ k : Nat, k ≤ len ∧ i = .int .i64 k ∧ wr.ownsRow w.heap.size 4 1 (.slice (some ⟨w.heap.size, 0, none⟩) len len) len (half (zs.map (Value.bool)) zz k) ∧ Below w.heap.size w wr) (fun i _ => len - (intOf i).toNat)
  case atStart => exact ⟨0, Nat.zero_le _, rfl, by simpa [half] using hown', hbel⟩
  case round =>
    obtain ⟨k, hk, rfl, how, hb⟩ := hrel
    clear hown' hbel
    by_cases hlt : k < len
    · obtain ⟨z, hzk⟩ : ∃ z, zs[k]? = some z := ⟨_, List.getElem?_eq_getElem (by omega)⟩
      have hgd : zs.getD k false = z := by simp [List.getD, hzk]
      have hck := hc k hlt
      rw [hgd] at hck
      have hcx : wr.cell? (x.add k) = some (.bool z) := (hb.cell (block_lt_of_cell hck)).trans hck
      obtain ⟨u, hu⟩ := half_getElem (zs.map (Value.bool)) zz k (by simp [hz, hzl]) (by omega)
      have hcu : wr.cell? ⟨w.heap.size, k, none⟩ = some u := by rw [how.cellAt k (by omega)]; exact hu
      have hfu := how.frozenAt k
      have HS := how.stored k (.bool z)
      have HE : Hid ((half (zs.map (Value.bool)) zz k).set k (.bool z) = half (zs.map (Value.bool)) zz (k + 1)) := half_step _ _ _ _ (by omega) (by simp [hzk])
      clear hu how hzk hgd hck hc
      go_wp2
      go_roundw
      case rel => exact ⟨k + 1, by omega, by go_num, by rw [← HE.out]; exact HS.1, hb.setCell (Nat.le_refl _) _⟩
      case measure => simp [intOf]; omega
    · go_wp2
      go_ret
      have hk' : k = len := by omega
      subst hk'
      exact ⟨_, rfl, by rw [half_all _ _ _ (by simp [hz]) hzl] at how; exact how, hb⟩
set_option maxHeartbeats 400000 in
theorem clone_ints_some (x : Addr) (len cap : Nat) (zs : List Int) (w : World) (hlen : len ≤ 1048576) (hz : zs.length = len) (hc : ∀ i, i < len → w.cell? (x.add i) = some (.int .i64 (zs.getD i 0))) :
    Calls Try.prog 22 #[.slice (some x) len cap] w fun e w' => ∃ g, e = .returned (.slice (some ⟨g, 0, none⟩) len len) ∧ w'.ownsRow w.heap.size 3 1 (.slice (some ⟨g, 0, none⟩) len len) len (zs.map (Value.int .i64)) ∧ Below w.heap.size w w' := by
  have hnil := fun (w : World) (a : Option Addr) (n c : Nat) => Lib.run_eql_slice_nil (P := Try.prog) w 36 3 a n c 0 0 Try.underlying36
  obtain ⟨i0, hi, hz0, hz1, hz2⟩ := info_parts Try.info3
  go_enter Try.func22, Try.ntmps22
  go_wp2_with (at_make; refine wpList_make_full _ rfl _ _ 36 rfl w.heap.size 3 i0 (.int .i64 0) 1 Try.underlying36 hi hz0 hz1 _ _ _ _ len rfl rfl rfl rfl ?c1 ?c2 ?c3 ?_)
  case c1 => rw [hz2]; omega
  case c2 => unfold maxLen; omega
  case c3 => exact Nat.le_refl _
  intro w1 hown hgrow
  have hbel : Below w.heap.size w w1 := (Below.refl _ _).grown hgrow (Nat.le_refl _) (fun k h => by cases h)
  obtain ⟨zz, hown'⟩ : ∃ zz, w1.ownsRow w.heap.size 3 1 (.slice (some ⟨w.heap.size, 0, none⟩) len len) len zz := ⟨_, hown⟩
  have hzl : zz.length = len := by simpa using hown'.1
  clear hown hgrow
  go_wp2_with fail
  go_loopw [4] (fun i wr => ∃ k : Nat, k ≤ len ∧ i = .int .i64 k ∧ wr.ownsRow w.heap.size 3 1 (.slice (some ⟨w.heap.size, 0, none⟩) len len) len (half (zs.map (Value.int .i64)) zz k) ∧ Below w.heap.size w wr) (fun i _ => len - (intOf i).toNat)
  case atStart => exact ⟨0, Nat.zero_le _, rfl, by simpa [half] using hown', hbel⟩
  case round =>
    obtain ⟨k, hk, rfl, how, hb⟩ := hrel
    clear hown' hbel
    by_cases hlt : k < len
    · obtain ⟨z, hzk⟩ : ∃ z, zs[k]? = some z := ⟨_, List.getElem?_eq_getElem (by omega)⟩
      have hgd : zs.getD k 0 = z := by simp [List.getD, hzk]
      have hck := hc k hlt
      rw [hgd] at hck
      have hcx : wr.cell? (x.add k) = some (.int .i64 z) := (hb.cell (block_lt_of_cell hck)).trans hck
      obtain ⟨u, hu⟩ := half_getElem (zs.map (Value.int .i64)) zz k (by simp [hz, hzl]) (by omega)
      have hcu : wr.cell? ⟨w.heap.size, k, none⟩ = some u := by rw [how.cellAt k (by omega)]; exact hu
      have hfu := how.frozenAt k
      have HS := how.stored k (.int .i64 z)
      have HE : Hid ((half (zs.map (Value.int .i64)) zz k).set k (.int .i64 z) = half (zs.map (Value.int .i64)) zz (k + 1)) := half_step _ _ _ _ (by omega) (by simp [hzk])
      clear hu how hzk hgd hck hc
      go_wp2
      go_roundw
      case rel => exact ⟨k + 1, by omega, by go_num, by rw [← HE.out]; exact HS.1, hb.setCell (Nat.le_refl _) _⟩
      case measure => simp [intOf]; omega
    · go_wp2
      go_ret
      have hk' : k = len := by omega
      subst hk'
      exact ⟨_, rfl, by rw [half_all _ _ _ (by simp [hz]) hzl] at how; exact how, hb⟩

/-- What the walks are told of a slice of integers that came in (the shells' own words). -/
def IsRow (k : IntKind) (w : World) (a : Option Addr) (len cap : Nat) (zs : List Int) : Prop :=
  (a = none ∧ len = 0 ∧ cap = 0 ∧ zs = []) ∨
  ∃ x, a = some x ∧ len ≤ cap ∧ cap ≤ maxLen ∧ zs.length = cap ∧ (∀ i, i < zs.length → w.cell? (x.add i) = some (.int k (zs.getD i 0))) ∧ ∀ n ∈ zs, (Lit.int k n).wf = true

theorem take_getD {α : Type} (zs : List α) (n i : Nat) (d : α) (h : i < n) : (zs.take n).getD i d = zs.getD i d := by
  simp [List.getD, h]

set_option maxHeartbeats 400000 in
theorem clone_bytes {a : Option Addr} {len cap : Nat} {zs : List Int} {w : World} (h : IsRow .u8 w a len cap zs) (hlen : len ≤ 1048576) :
    Calls Try.prog 11 #[.slice a len cap] w fun e w' => ∃ a', e = .returned (.slice a' len len) ∧ w'.ownsRow w.heap.size 5 1 (.slice a' len len) len ((zs.take len).map (Value.int .u8)) ∧ Below w.heap.size w w' := by
  rcases h with ⟨rfl, rfl, rfl, rfl⟩ | ⟨x, rfl, hl, hm, hz, hc, hw⟩
  · have hnil := fun (w : World) (a : Option Addr) (n c : Nat) => Lib.run_eql_slice_nil (P := Try.prog) w 22 5 a n c 0 0 Try.underlying22
    go_enter Try.func11, Try.ntmps11
    go_wp2
    go_ret
    exact ⟨none, rfl, World.ownsRow_nil _ _ _ _, Below.refl _ _⟩
  · refine (clone_bytes_some x len cap (zs.take len) w hlen (by simp; omega) (fun i hi => by rw [take_getD _ _ _ _ hi]; exact hc i (by omega))).mono ?_
    rintro e w' ⟨g, rfl, h1, h2⟩
    exact ⟨_, rfl, h1, h2⟩

set_option maxHeartbeats 400000 in
theorem clone_ints {a : Option Addr} {len cap : Nat} {zs : List Int} {w : World} (h : IsRow .i64 w a len cap zs) (hlen : len ≤ 1048576) :
    Calls Try.prog 22 #[.slice a len cap] w fun e w' => ∃ a', e = .returned (.slice a' len len) ∧ w'.ownsRow w.heap.size 3 1 (.slice a' len len) len ((zs.take len).map (Value.int .i64)) ∧ Below w.heap.size w w' := by
  rcases h with ⟨rfl, rfl, rfl, rfl⟩ | ⟨x, rfl, hl, hm, hz, hc, hw⟩
  · have hnil := fun (w : World) (a : Option Addr) (n c : Nat) => Lib.run_eql_slice_nil (P := Try.prog) w 36 3 a n c 0 0 Try.underlying36
    go_enter Try.func22, Try.ntmps22
    go_wp2
    go_ret
    exact ⟨none, rfl, World.ownsRow_nil _ _ _ _, Below.refl _ _⟩
  · refine (clone_ints_some x len cap (zs.take len) w hlen (by simp; omega) (fun i hi => by rw [take_getD _ _ _ _ hi]; exact hc i (by omega))).mono ?_
    rintro e w' ⟨g, rfl, h1, h2⟩
    exact ⟨_, rfl, h1, h2⟩

/-- What the walks are told of a slice of bools that came in. -/
def IsBits (w : World) (a : Option Addr) (len cap : Nat) (zs : List Bool) : Prop :=
  (a = none ∧ len = 0 ∧ cap = 0 ∧ zs = []) ∨
  ∃ x, a = some x ∧ len ≤ cap ∧ cap ≤ maxLen ∧ zs.length = cap ∧ (∀ i, i < zs.length → w.cell? (x.add i) = some (.bool (zs.getD i false)))

set_option maxHeartbeats 400000 in
theorem clone_bools {a : Option Addr} {len cap : Nat} {zs : List Bool} {w : World} (h : IsBits w a len cap zs) (hlen : len ≤ 1048576) :
    Calls Try.prog 20 #[.slice a len cap] w fun e w' => ∃ a', e = .returned (.slice a' len len) ∧ w'.ownsRow w.heap.size 4 1 (.slice a' len len) len ((zs.take len).map Value.bool) ∧ Below w.heap.size w w' := by
  rcases h with ⟨rfl, rfl, rfl, rfl⟩ | ⟨x, rfl, hl, hm, hz, hc⟩
  · have hnil := fun (w : World) (a : Option Addr) (n c : Nat) => Lib.run_eql_slice_nil (P := Try.prog) w 33 4 a n c 0 0 Try.underlying33
    go_enter Try.func20, Try.ntmps20
    go_wp2
    go_ret
    exact ⟨none, rfl, World.ownsRow_nil _ _ _ _, Below.refl _ _⟩
  · refine (clone_bools_some x len cap (zs.take len) w hlen (by simp; omega) (fun i hi => by rw [take_getD _ _ _ _ hi]; exact hc i (by omega))).mono ?_
    rintro e w' ⟨g, rfl, h1, h2⟩
    exact ⟨_, rfl, h1, h2⟩

set_option maxHeartbeats 400000 in
theorem zz10_yes (a : Option Addr) (len cap : Nat) (v : Bool) (w : World) (hm : len ≤ maxLen) (hlen : len ≤ 1048576) :
    Calls Try.prog 10 #[.slice a len cap, .bool v] w fun e w' => e = .returned (.bool true) ∧ w = w' := by
  unfold maxLen at hm
  go_enter Try.func10, Try.ntmps10
  go_wp2
  go_ret
  exact ⟨rfl, rfl⟩

set_option maxHeartbeats 400000 in
theorem zz10_no (a : Option Addr) (len cap : Nat) (v : Bool) (w : World) (hm : len ≤ maxLen) (hlen : ¬ len ≤ 1048576) :
    Calls Try.prog 10 #[.slice a len cap, .bool v] w fun e w' => e = .returned (.bool false) ∧ w = w' := by
  unfold maxLen at hm
  go_enter Try.func10, Try.ntmps10
  go_wp2
  go_ret
  exact ⟨rfl, rfl⟩

set_option maxHeartbeats 400000 in
theorem zz19_yes (a : Option Addr) (len cap : Nat)  (w : World) (hm : len ≤ maxLen) (hlen : len ≤ 1048576) :
    Calls Try.prog 19 #[.slice a len cap] w fun e w' => e = .returned (.bool true) ∧ w = w' := by
  unfold maxLen at hm
  go_enter Try.func19, Try.ntmps19
  go_wp2
  go_ret
  exact ⟨rfl, rfl⟩

set_option maxHeartbeats 400000 in
theorem zz19_no (a : Option Addr) (len cap : Nat)  (w : World) (hm : len ≤ maxLen) (hlen : ¬ len ≤ 1048576) :
    Calls Try.prog 19 #[.slice a len cap] w fun e w' => e = .returned (.bool false) ∧ w = w' := by
  unfold maxLen at hm
  go_enter Try.func19, Try.ntmps19
  go_wp2
  go_ret
  exact ⟨rfl, rfl⟩

set_option maxHeartbeats 400000 in
theorem zz23_yes (a : Option Addr) (len cap : Nat) (n x : Int) (w : World) (hm : len ≤ maxLen) (hlen : len ≤ 1048576) :
    Calls Try.prog 23 #[.slice a len cap, .int .i64 n, .int .u8 x] w fun e w' => e = .returned (.bool true) ∧ w = w' := by
  unfold maxLen at hm
  go_enter Try.func23, Try.ntmps23
  go_wp2
  go_ret
  exact ⟨rfl, rfl⟩

set_option maxHeartbeats 400000 in
theorem zz23_no (a : Option Addr) (len cap : Nat) (n x : Int) (w : World) (hm : len ≤ maxLen) (hlen : ¬ len ≤ 1048576) :
    Calls Try.prog 23 #[.slice a len cap, .int .i64 n, .int .u8 x] w fun e w' => e = .returned (.bool false) ∧ w = w' := by
  unfold maxLen at hm
  go_enter Try.func23, Try.ntmps23
  go_wp2
  go_ret
  exact ⟨rfl, rfl⟩

set_option maxHeartbeats 400000 in
theorem zz24_yes (a : Option Addr) (len cap : Nat) (n m : Int) (w : World) (hm : len ≤ maxLen) (hlen : len ≤ 1048576) :
    Calls Try.prog 24 #[.slice a len cap, .int .i64 n, .int .i64 m] w fun e w' => e = .returned (.bool true) ∧ w = w' := by
  unfold maxLen at hm
  go_enter Try.func24, Try.ntmps24
  go_wp2
  go_ret
  exact ⟨rfl, rfl⟩

set_option maxHeartbeats 400000 in
theorem zz24_no (a : Option Addr) (len cap : Nat) (n m : Int) (w : World) (hm : len ≤ maxLen) (hlen : ¬ len ≤ 1048576) :
    Calls Try.prog 24 #[.slice a len cap, .int .i64 n, .int .i64 m] w fun e w' => e = .returned (.bool false) ∧ w = w' := by
  unfold maxLen at hm
  go_enter Try.func24, Try.ntmps24
  go_wp2
  go_ret
  exact ⟨rfl, rfl⟩

set_option maxHeartbeats 400000 in
theorem zz25_yes (a : Option Addr) (len cap : Nat)  (w : World) (hm : len ≤ maxLen) (hlen : len ≤ 1048576) :
    Calls Try.prog 25 #[.slice a len cap] w fun e w' => e = .returned (.bool true) ∧ w = w' := by
  unfold maxLen at hm
  go_enter Try.func25, Try.ntmps25
  go_wp2
  go_ret
  exact ⟨rfl, rfl⟩

set_option maxHeartbeats 400000 in
theorem zz25_no (a : Option Addr) (len cap : Nat)  (w : World) (hm : len ≤ maxLen) (hlen : ¬ len ≤ 1048576) :
    Calls Try.prog 25 #[.slice a len cap] w fun e w' => e = .returned (.bool false) ∧ w = w' := by
  unfold maxLen at hm
  go_enter Try.func25, Try.ntmps25
  go_wp2
  go_ret
  exact ⟨rfl, rfl⟩

set_option maxHeartbeats 400000 in
theorem zz26_yes (a : Option Addr) (len cap : Nat) (n : Int) (w : World) (hm : len ≤ maxLen) (hlen : len ≤ 1048576) :
    Calls Try.prog 26 #[.slice a len cap, .int .i64 n] w fun e w' => e = .returned (.bool true) ∧ w = w' := by
  unfold maxLen at hm
  go_enter Try.func26, Try.ntmps26
  go_wp2
  go_ret
  exact ⟨rfl, rfl⟩

set_option maxHeartbeats 400000 in
theorem zz26_no (a : Option Addr) (len cap : Nat) (n : Int) (w : World) (hm : len ≤ maxLen) (hlen : ¬ len ≤ 1048576) :
    Calls Try.prog 26 #[.slice a len cap, .int .i64 n] w fun e w' => e = .returned (.bool false) ∧ w = w' := by
  unfold maxLen at hm
  go_enter Try.func26, Try.ntmps26
  go_wp2
  go_ret
  exact ⟨rfl, rfl⟩

end Go.Proofs.Qxb6600122a
