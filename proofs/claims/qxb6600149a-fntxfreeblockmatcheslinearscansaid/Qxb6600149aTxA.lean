import Derived.Test.Qxb6600149aRows
import Derived.WalkKit
import Derived.WalkSpells
import Derived.Deep.QuietTactic
import Derived.BigQuiet
import Derived.Deep.OwnRows
namespace Go.Proofs.Qxb6600149a.Tx
open Go.RowKit

theorem bytes9 (a : Option Addr) (len cap : Nat) (b : Int) (w : World) (hl : len ≤ maxLen) :
    Calls Try.prog 9 #[.slice a len cap, .int .i64 b] w fun e w' => e = .returned (.bool (decide (len ≤ 1048576))) ∧ w' = w := by
  unfold maxLen at hl
  by_cases h : len ≤ 1048576
  · go_enter Try.func9, Try.ntmps9
    go_wp2
    go_ret
    exact ⟨by simp [h], rfl⟩
  · go_enter Try.func9, Try.ntmps9
    go_wp2
    go_ret
    exact ⟨by simp [h], rfl⟩

theorem bytes14 (a : Option Addr) (len cap : Nat) (w : World) (hl : len ≤ maxLen) :
    Calls Try.prog 14 #[.slice a len cap] w fun e w' => e = .returned (.bool (decide (len ≤ 1048576))) ∧ w' = w := by
  unfold maxLen at hl
  by_cases h : len ≤ 1048576
  · go_enter Try.func14, Try.ntmps14
    go_wp2
    go_ret
    exact ⟨by simp [h], rfl⟩
  · go_enter Try.func14, Try.ntmps14
    go_wp2
    go_ret
    exact ⟨by simp [h], rfl⟩

/-- A slice of ints: without elements, or at an address where they lie. -/
def At (w : World) (k : IntKind) (a : Option Addr) (len : Nat) (z : Nat → Int) : Prop :=
  len = 0 ∨ ∃ b off, a = some ⟨b, off, none⟩ ∧ ∀ i, i < len → w.cell? ⟨b, off + i, none⟩ = some (.int k (z i))

theorem asc0 (a : Option Addr) (cap : Nat) (w : World) :
    Calls Try.prog 10 #[.slice a 0 cap] w fun e w' => e = .returned (.bool true) ∧ w' = w := by
  go_enter Try.func10, Try.ntmps10
  go_wp2
  refine wp_loop_rounds 1 ?_
  rw [rounds_succ]
  go_wp2
  go_ret
  exact ⟨rfl, rfl⟩

theorem asc1 (b off len cap : Nat) (z : Nat → Int) (w : World) (hl : len ≤ 1048576) (h0 : 0 < len) (hc : ∀ i, i < len → w.cell? ⟨b, off + i, none⟩ = some (.int .i64 (z i))) :
    Calls Try.prog 10 #[.slice (some ⟨b, off, none⟩) len cap] w fun e w' => ∃ r : Bool, e = .returned (.bool r) ∧ (r = true → ∀ i, i + 1 < len → z i < z (i + 1)) ∧ ∃ n, w' = w.drewN n := by
  go_enter Try.func10, Try.ntmps10
  go_wp2
  go_loopw [3] (fun i wr => ∃ k : Nat, 1 ≤ k ∧ k ≤ len ∧ i = .int .i64 k ∧ (∀ i, i + 1 < k → z i < z (i + 1)) ∧ ∃ n, wr = w.drewN n) (fun i _ => len - (intOf i).toNat)
  case atStart => exact ⟨1, by omega, by omega, rfl, fun i hi => by omega, 0, rfl⟩
  case round =>
    obtain ⟨k, hk1, hk, rfl, hasc, n, rfl⟩ := hrel
    by_cases hlt : k < len
    · obtain ⟨j, rfl⟩ : ∃ j, k = j + 1 := ⟨k - 1, by omega⟩
      have c1 := hc j (by omega)
      have c2 := hc (j + 1) hlt
      have HA : Hid (∀ i, i + 1 < j + 1 → z i < z (i + 1)) := hasc
      clear hasc hc
      have l1 : (0 : Int) ≤ (j : Int) := by omega
      have l2 : (j : Int) < (len : Int) := by omega
      have l3 : (j : Int) + 1 < (len : Int) := by omega
      by_cases hz : z (j + 1) ≤ z j
      · go_wp2
        go_quiet (fail)
        go_wp2
        go_ret
        exact ⟨false, rfl, fun h => (by simp at h), _, World.drewN_drewN ..⟩
      · go_wp2
        go_quiet (fail)
        go_wp2
        go_roundw
        case rel =>
          refine ⟨j + 1 + 1, by omega, by omega, by go_num, ?_, _, rfl⟩
          intro i hi
          by_cases e : i = j
          · subst e; omega
          · exact HA.out i (by omega)
        case measure => simp [intOf]; omega
    · go_wp2
      go_ret
      exact ⟨true, rfl, fun _ i hi => hasc i (by omega), n, rfl⟩

theorem info3 : (Try.prog.info? 3).map (fun i => (i.zero, i.size, i.bytes)) = some (some (.int .i64 0), 1, 8) := by kernel_rfl

/-- What a copy of a slice leaves: nil for nil; else a row of its own, made by the call. -/
def Copied (w w' : World) (e : TypeId) (k : IntKind) (len : Nat) (z : Nat → Int) (v : Value) : Prop :=
  (v = .slice none 0 0 ∧ len = 0 ∧ w' = w) ∨
  (v = .slice (some ⟨w.heap.size, 0, none⟩) len len ∧ w'.rowIs w.heap.size e len (fun i => .int k (z i)) ∧ Below w.heap.size w w' ∧ w'.heap.size = w.heap.size + 1)

theorem clone_nil (w : World) : Calls Try.prog 11 #[.slice none 0 0] w fun e w' => e = .returned (.slice none 0 0) ∧ w' = w := by
  have q := fun (w : World) (a : Option Addr) (n c n' c' : Nat) => Lib.run_eql_slice_nil (P := Try.prog) w _ _ a n c n' c' Try.underlying22
  go_enter Try.func11, Try.ntmps11
  go_wp2
  go_ret
  exact ⟨rfl, rfl⟩

theorem clone_row (x : Addr) (len cap : Nat) (z : Nat → Int) (w : World) (hl : len ≤ 1048576) (hA : At w .i64 (some x) len z) :
    Calls Try.prog 11 #[.slice (some x) len cap] w fun e w' => ∃ v, e = .returned v ∧ Copied w w' 3 .i64 len z v := by
  have q := fun (w : World) (a : Option Addr) (n c n' c' : Nat) => Lib.run_eql_slice_nil (P := Try.prog) w _ _ a n c n' c' Try.underlying22
  have hmk := fun w => run_make_row' (P := Try.prog) 22 3 (.int .i64 0) 8 Try.underlying22 info3 rfl .i64 .i64 len (by omega) (by omega) w
  go_enter Try.func11, Try.ntmps11
  go_wp2
  clear q hmk
  go_loopw [4] (fun i wr => ∃ k : Nat, k ≤ len ∧ i = .int .i64 k ∧ wr.rowIs w.heap.size 3 len (fun i => .int .i64 (if i < k then z i else 0)) ∧ Below w.heap.size w wr ∧ wr.heap.size = w.heap.size + 1) (fun i _ => len - (intOf i).toNat)
  case atStart => exact ⟨0, by omega, rfl, (World.rowIs_made w (.int .i64 0) len 3).congr (by simp), (Below.refl _ _).alloc (Nat.le_refl _) _, by simp⟩
  case round =>
    obtain ⟨k, hk, rfl, hrow, hbel, hsz⟩ := hrel
    by_cases hlt : k < len
    · obtain ⟨b, off, rfl, hc⟩ : ∃ b off, x = ⟨b, off, none⟩ ∧ ∀ i, i < len → w.cell? ⟨b, off + i, none⟩ = some (.int .i64 (z i)) := by
        rcases hA with h | ⟨b, off, h1, h2⟩
        · omega
        · exact ⟨b, off, by simpa using h1, h2⟩
      have hb : b < w.heap.size := World.block_lt_of_cell? w _ (hc k hlt)
      have c1 : wr.cell? ⟨b, off + k, none⟩ = some (.int .i64 (z k)) := (hbel.cell (by exact hb)).trans (hc k hlt)
      have c2 := hrow.cell hlt
      have c3 := hrow.frozen k
      clear hc hA
      go_wp2
      go_roundw
      case rel =>
        refine ⟨k + 1, by omega, by go_num, (hrow.set k (.int .i64 (z k))).congr ?_, hbel.setCell (by simp) _, by simpa using hsz⟩
        intro i hi
        by_cases e : i = k
        · subst e; simp
        · by_cases e' : i < k
          · simp [e, e', show i < k + 1 by omega]
          · simp [e, e', show ¬ i < k + 1 by omega]
      case measure => simp [intOf]; omega
    · go_wp2
      go_ret
      exact ⟨_, rfl, .inr ⟨rfl, hrow.congr (fun i hi => by simp [show i < k by omega]), hbel, hsz⟩⟩

end Go.Proofs.Qxb6600149a.Tx
