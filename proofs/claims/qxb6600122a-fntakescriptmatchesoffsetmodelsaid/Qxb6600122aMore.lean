/-
  Contracts of AppendBool (12) and sameBytes (16).
-/
import Derived.Test.Qxb6600122aLive
import Derived.ArgAppend
import Derived.Deep.QuietTactic
import Derived.BigQuiet
namespace Go.Proofs.Qxb6600122a
open Go.ChangeShapes Go.WideShapes Go.ChangeAt Go.RowKit
set_option linter.unusedVariables false

/-- The byte that AppendBool writes. -/
def bit (v : Bool) : Int := if v then 1 else 0

theorem map_snoc (zs : List Int) (x : Int) : zs.map (Value.int .u8) ++ [.int .u8 x] = (zs ++ [x]).map (Value.int .u8) := by simp

set_option maxHeartbeats 400000 in
/-- AppendBool onto a slice whose capacity is its length: a new row; nothing old has turned. -/
theorem append_grow {B : Nat} {av : Option Addr} {n : Nat} {zs : List Int} {w : World} (hown : w.ownsRow B 5 1 (.slice av n n) n (zs.map (Value.int .u8))) (hn : n ≤ 1048576) (v : Bool) :
    Calls Try.prog 12 #[.slice av n n, .bool v] w fun e w' => ∃ g c, e = .returned (.slice (some ⟨g, 0, none⟩) (n + 1) c) ∧ w'.ownsRow w.heap.size 5 1 (.slice (some ⟨g, 0, none⟩) (n + 1) c) (n + 1) ((zs ++ [bit v]).map (Value.int .u8)) ∧ w.grownBy w' none := by
  obtain ⟨i0, hi, hz0, hz1, hz2⟩ := info_parts Try.info5
  have hsh := own_shape hown
  have hl : (zs.map (Value.int .u8)).length = n * 1 := hown.1
  have hnone : av = none → n = 0 ∧ n = 0 := by
    intro h
    rcases hsh with ⟨_, h1, _⟩ | ⟨g, h1, _⟩
    · exact ⟨h1, h1⟩
    · rw [h] at h1; cases h1
  have hoc : ∀ o : Obj, ∀ b : Addr, av = some b → ∀ j u, (zs.map (Value.int .u8))[j]? = some u → (w.alloc o).cell? (b.add j) = some u := by
    intro o b hb j u hu
    rcases hsh with ⟨h1, _⟩ | ⟨g, h1, _⟩
    · rw [h1] at hb; cases hb
    · rw [h1] at hb
      obtain rfl := Option.some.inj hb
      subst h1
      exact Lib.cell?_alloc_some _ (hown.cells rfl j u hu)
  have hend : ∀ (x : Int) (v' : Value) (w' : World), w'.ownsRow (w.heap.size + 1) 5 1 v' (n + 1) (zs.map (Value.int .u8) ++ [.int .u8 x]) → (w.alloc (.cells #[.int .u8 x] 5)).grownBy w' none →
      ∃ g c, v' = .slice (some ⟨g, 0, none⟩) (n + 1) c ∧ w'.ownsRow w.heap.size 5 1 (.slice (some ⟨g, 0, none⟩) (n + 1) c) (n + 1) ((zs ++ [x]).map (Value.int .u8)) ∧ w.grownBy w' none := by
    intro x v' w' h1 h2
    obtain ⟨g, c, rfl, _⟩ := own_value h1 (by omega)
    refine ⟨g, c, rfl, ?_, grownBy_trans (World.grownBy_alloc _ _ _) h2⟩
    rw [map_snoc] at h1
    exact own_base h1 (by omega)
  have HE : Hid (∀ (x : Int) (v' : Value) (w' : World), w'.ownsRow (w.heap.size + 1) 5 1 v' (n + 1) (zs.map (Value.int .u8) ++ [.int .u8 x]) → (w.alloc (.cells #[.int .u8 x] 5)).grownBy w' none →
      ∃ g c, v' = .slice (some ⟨g, 0, none⟩) (n + 1) c ∧ w'.ownsRow w.heap.size 5 1 (.slice (some ⟨g, 0, none⟩) (n + 1) c) (n + 1) ((zs ++ [x]).map (Value.int .u8)) ∧ w.grownBy w' none) := hend
  clear hend hsh hown
  cases v
  · have hnc := cell_one_new w (.int .u8 0) 5
    go_enter Try.func12, Try.ntmps12
    go_wp2_with (at_builtin; refine wpList_append_grows _ rfl _ _ 22 rfl 5 i0 (.int .u8 0) 1 1 Try.underlying22 hi hz0 hz1 hz2 rfl (by decide) av n n (zs.map (Value.int .u8)) rfl hnone hl (hoc _) ⟨w.heap.size, 0, none⟩ 1 1 [.int .u8 0] rfl rfl hnc (ints_oneCell .u8 [0]) (by omega) (by unfold maxLen; omega) (by omega) ?_)
    intro v' w' h1 h2
    obtain ⟨g, c, rfl, h3, h4⟩ := HE.out 0 v' w' h1 h2
    clear h1 h2 HE hoc hnone hnc
    go_wp2
    go_ret
    exact ⟨g, c, rfl, h3, h4⟩
  · have hnc := cell_one_new w (.int .u8 1) 5
    go_enter Try.func12, Try.ntmps12
    go_wp2_with (at_builtin; refine wpList_append_grows _ rfl _ _ 22 rfl 5 i0 (.int .u8 0) 1 1 Try.underlying22 hi hz0 hz1 hz2 rfl (by decide) av n n (zs.map (Value.int .u8)) rfl hnone hl (hoc _) ⟨w.heap.size, 0, none⟩ 1 1 [.int .u8 1] rfl rfl hnc (ints_oneCell .u8 [1]) (by omega) (by unfold maxLen; omega) (by omega) ?_)
    intro v' w' h1 h2
    obtain ⟨g, c, rfl, h3, h4⟩ := HE.out 1 v' w' h1 h2
    clear h1 h2 HE hoc hnone hnc
    go_wp2
    go_ret
    exact ⟨g, c, rfl, h3, h4⟩

set_option maxHeartbeats 400000 in
/-- AppendBool onto a slice of the caller's own: it may grow or write into its spare room. -/
theorem append_own {B : Nat} {av : Option Addr} {n cap : Nat} {zs : List Int} {w : World} (hown : w.ownsRow B 5 1 (.slice av n cap) n (zs.map (Value.int .u8))) (hn : n ≤ 1048576) (hB : B ≤ w.heap.size) (v : Bool) :
    Calls Try.prog 12 #[.slice av n cap, .bool v] w fun e w' => ∃ g c, e = .returned (.slice (some ⟨g, 0, none⟩) (n + 1) c) ∧ w'.ownsRow B 5 1 (.slice (some ⟨g, 0, none⟩) (n + 1) c) (n + 1) ((zs ++ [bit v]).map (Value.int .u8)) ∧ Below B w w' := by
  obtain ⟨i0, hi, hz0, hz1, hz2⟩ := info_parts Try.info5
  have HE : Hid (∀ (x : Int) (v' : Value) (w' : World), w'.ownsRow B 5 1 v' (n + 1) (zs.map (Value.int .u8) ++ [.int .u8 x]) → (w.alloc (.cells #[.int .u8 x] 5)).grownBy w' (Value.slice av n cap).ownBlock →
      ∃ g c, v' = .slice (some ⟨g, 0, none⟩) (n + 1) c ∧ w'.ownsRow B 5 1 (.slice (some ⟨g, 0, none⟩) (n + 1) c) (n + 1) ((zs ++ [x]).map (Value.int .u8)) ∧ Below B w w') := by
    intro x v' w' h1 h2
    obtain ⟨g, c, rfl, _⟩ := own_value h1 (by omega)
    refine ⟨g, c, rfl, ?_, ((Below.refl B w).alloc hB _).grown h2 (by simp; omega) (fun k hk => (hown.lt k hk).1)⟩
    rw [map_snoc] at h1
    exact h1
  cases v
  · have hnc := cell_one_new w (.int .u8 0) 5
    go_enter Try.func12, Try.ntmps12
    go_wp2_with (at_builtin; refine wpList_append_own _ rfl _ _ 22 rfl B 5 i0 (.int .u8 0) 1 1 Try.underlying22 hi hz0 hz1 hz2 rfl (by decide) _ _ _ rfl (hown.alloc _) ⟨w.heap.size, 0, none⟩ 1 1 [.int .u8 0] rfl rfl hnc (ints_oneCell .u8 [0]) (by unfold maxLen; omega) (by omega) (by simp; omega) ?_)
    intro v' w' h1 h2 _
    obtain ⟨g, c, rfl, h3, h4⟩ := HE.out 0 v' w' h1 h2
    clear h1 h2 HE hown hnc
    go_wp2
    go_ret
    exact ⟨g, c, rfl, h3, h4⟩
  · have hnc := cell_one_new w (.int .u8 1) 5
    go_enter Try.func12, Try.ntmps12
    go_wp2_with (at_builtin; refine wpList_append_own _ rfl _ _ 22 rfl B 5 i0 (.int .u8 0) 1 1 Try.underlying22 hi hz0 hz1 hz2 rfl (by decide) _ _ _ rfl (hown.alloc _) ⟨w.heap.size, 0, none⟩ 1 1 [.int .u8 1] rfl rfl hnc (ints_oneCell .u8 [1]) (by unfold maxLen; omega) (by omega) (by simp; omega) ?_)
    intro v' w' h1 h2 _
    obtain ⟨g, c, rfl, h3, h4⟩ := HE.out 1 v' w' h1 h2
    clear h1 h2 HE hown hnc
    go_wp2
    go_ret
    exact ⟨g, c, rfl, h3, h4⟩

theorem grownBy_drewN (w : World) (k : Nat) (row : Option Nat) : w.grownBy (w.drewN k) row := ⟨rfl, rfl, rfl, Nat.le_refl _, fun _ _ _ => rfl⟩

set_option maxHeartbeats 400000 in
/-- sameBytes of two slices that hold the same bytes. -/
theorem same_yes (a b : Option Addr) (n ca cb ga oa gb ob : Nat) (zs : List Int) (w : World) (hn : n ≤ 1048576) (ha : 0 < n → a = some ⟨ga, oa, none⟩) (hb : 0 < n → b = some ⟨gb, ob, none⟩)
    (hca : ∀ j, j < n → w.cell? ⟨ga, oa + j, none⟩ = some (.int .u8 (zs.getD j 0))) (hcb : ∀ j, j < n → w.cell? ⟨gb, ob + j, none⟩ = some (.int .u8 (zs.getD j 0))) :
    Calls Try.prog 16 #[.slice a n ca, .slice b n cb] w fun e w' => e = .returned (.bool true) ∧ w.grownBy w' none := by
  go_enter Try.func16, Try.ntmps16
  go_wp2_with fail
  go_loopw [5] (fun i wr => ∃ k : Nat, k ≤ n ∧ i = .int .i64 k ∧ w.grownBy wr none) (fun i _ => n - (intOf i).toNat)
  case atStart => exact ⟨0, Nat.zero_le _, rfl, World.grownBy.refl _ _⟩
  case round =>
    obtain ⟨k, hk, rfl, hg⟩ := hrel
    by_cases hlt : k < n
    · obtain rfl := ha (by omega)
      obtain rfl := hb (by omega)
      obtain ⟨z, hz⟩ : ∃ z, z = zs.getD k 0 := ⟨_, rfl⟩
      have h1 : wr.cell? ⟨ga, oa + k, none⟩ = some (.int .u8 z) := by rw [hz]; exact hg.cell (hca k hlt) (by simp)
      have h2 : wr.cell? ⟨gb, ob + k, none⟩ = some (.int .u8 z) := by rw [hz]; exact hg.cell (hcb k hlt) (by simp)
      have hlt' : (k : Int) < n := by omega
      clear hz hca hcb ha hb
      go_wp2
      go_quiet (fail)
      go_wp2
      go_roundw
      case rel => exact ⟨k + 1, by omega, by go_num, grownBy_trans hg (grownBy_drewN _ _ _)⟩
      case measure => simp [intOf]; omega
    · go_wp2
      go_ret
      exact ⟨rfl, hg⟩

end Go.Proofs.Qxb6600122a
