/-
  actionOf and ZZActionOf at a conditional put; FnConditionalPutOfUnknownOutcomeIsOKOrMismatch: the walk.
-/
import Derived.Test.Qxb6601795aRows
import Derived.WalkKit
import Derived.WalkSpells
import Derived.Deep.QuietTactic
import Derived.BigQuiet
import Derived.Handy
import Derived.WalkSmall
namespace Go.Proofs.Qxb6601795a.Af
open Go.RowKit

theorem hideE {q : Prop} (h : q) : Hid q := h
theorem unhideE {q : Prop} (h : Hid q) : q := h

/-- A cell that was there, behind three new blocks. -/
theorem old_cell3 {w : World} {a : Addr} {x : Value} (h : w.cell? a = some x) : ∀ o1 o2 o3, (((w.alloc o1).alloc o2).alloc o3).cell? a = some x := fun o1 o2 o3 => by
  have hb := World.block_lt_of_cell? w a h
  have b : Below w.heap.size w (((w.alloc o1).alloc o2).alloc o3) := (((Below.refl _ _).alloc (Nat.le_refl _) o1).alloc (by simp) o2).alloc (by simp; omega) o3
  exact (b.cell hb).trans h

theorem actOk (v : ByteArray) (iv : Int) (bv bi : Nat) (w : World) (hv : w.cell? ⟨bv, 0, none⟩ = some (.string v)) (hi : w.cell? ⟨bi, 0, none⟩ = some (.int .u64 iv)) :
    Calls Try.prog 24 #[.agg #[.int .i64 0, .string ⟨#[112, 117, 116]⟩, .string ⟨#[]⟩, .pointer (some ⟨bv, 0, none⟩), .pointer (some ⟨bi, 0, none⟩), .pointer none, .int .i64 0, .pointer none, .string ⟨#[111, 107]⟩]] w fun e w' => e = .returned (.tuple #[.agg #[.int .u8 3, .string v, .bool true, .int .u64 iv], .bool true]) ∧ Below w.heap.size w w' := by
  have kv := old_cell3 hv
  have ki := old_cell3 hi
  clear hv hi
  go_enter Try.func24, Try.ntmps24
  go_wp2
  exact bodyPost_ret (v := .tuple #[.agg #[.int .u8 3, .string v, .bool true, .int .u64 iv], .bool true]) (by simp [results, Try.results24, go_sem]) rfl ⟨rfl, by go_grown⟩

theorem actMis (v : ByteArray) (iv : Int) (bv bi : Nat) (w : World) (hv : w.cell? ⟨bv, 0, none⟩ = some (.string v)) (hi : w.cell? ⟨bi, 0, none⟩ = some (.int .u64 iv)) :
    Calls Try.prog 24 #[.agg #[.int .i64 0, .string ⟨#[112, 117, 116]⟩, .string ⟨#[]⟩, .pointer (some ⟨bv, 0, none⟩), .pointer (some ⟨bi, 0, none⟩), .pointer none, .int .i64 0, .pointer none, .string ⟨#[109, 105, 115, 109, 97, 116, 99, 104]⟩]] w fun e w' => e = .returned (.tuple #[.agg #[.int .u8 5, .string ⟨#[]⟩, .bool false, .int .u64 iv], .bool true]) ∧ Below w.heap.size w w' := by
  have kv := old_cell3 hv
  have ki := old_cell3 hi
  clear hv hi
  go_enter Try.func24, Try.ntmps24
  go_wp2
  exact bodyPost_ret (v := .tuple #[.agg #[.int .u8 5, .string ⟨#[]⟩, .bool false, .int .u64 iv], .bool true]) (by simp [results, Try.results24, go_sem]) rfl ⟨rfl, by go_grown⟩

theorem actUnk (v : ByteArray) (iv : Int) (bv bi : Nat) (w : World) (hv : w.cell? ⟨bv, 0, none⟩ = some (.string v)) (hi : w.cell? ⟨bi, 0, none⟩ = some (.int .u64 iv)) :
    Calls Try.prog 24 #[.agg #[.int .i64 0, .string ⟨#[112, 117, 116]⟩, .string ⟨#[]⟩, .pointer (some ⟨bv, 0, none⟩), .pointer (some ⟨bi, 0, none⟩), .pointer none, .int .i64 0, .pointer none, .string ⟨#[117, 110, 107, 110, 111, 119, 110]⟩]] w fun e w' => e = .returned (.tuple #[.agg #[.int .u8 4, .string v, .bool true, .int .u64 iv], .bool true]) ∧ Below w.heap.size w w' := by
  have kv := old_cell3 hv
  have ki := old_cell3 hi
  clear hv hi
  go_enter Try.func24, Try.ntmps24
  go_wp2
  exact bodyPost_ret (v := .tuple #[.agg #[.int .u8 4, .string v, .bool true, .int .u64 iv], .bool true]) (by simp [results, Try.results24, go_sem]) rfl ⟨rfl, by go_grown⟩

theorem zactOk (v : ByteArray) (iv : Int) (bv bi : Nat) (w : World) (hv : w.cell? ⟨bv, 0, none⟩ = some (.string v)) (hi : w.cell? ⟨bi, 0, none⟩ = some (.int .u64 iv)) :
    Calls Try.prog 8 #[.int .i64 0, .string ⟨#[112, 117, 116]⟩, .string ⟨#[]⟩, .pointer (some ⟨bv, 0, none⟩), .pointer (some ⟨bi, 0, none⟩), .pointer none, .int .i64 0, .pointer none, .string ⟨#[111, 107]⟩] w fun e w' => e = .returned (.tuple #[.int .u8 3, .string v, .bool true, .int .u64 iv, .bool true]) ∧ Below w.heap.size w w' := by
  have H := hideE (actOk v iv bv bi w hv hi)
  clear hv hi
  go_enter Try.func8, Try.ntmps8
  go_wp2_with fail
  refine (unhideE H).mono ?_
  rintro e w1 ⟨rfl, hb⟩
  have HB := hideE hb
  clear hb H
  go_wp2_with fail
  go_quiet (fail)
  go_wp2
  exact bodyPost_ret (v := .tuple #[.int .u8 3, .string v, .bool true, .int .u64 iv, .bool true]) (by simp [results, Try.results8, go_sem]) rfl ⟨rfl, below_drewN ((unhideE HB).alloc (unhideE HB).size _) _⟩

theorem zactMis (v : ByteArray) (iv : Int) (bv bi : Nat) (w : World) (hv : w.cell? ⟨bv, 0, none⟩ = some (.string v)) (hi : w.cell? ⟨bi, 0, none⟩ = some (.int .u64 iv)) :
    Calls Try.prog 8 #[.int .i64 0, .string ⟨#[112, 117, 116]⟩, .string ⟨#[]⟩, .pointer (some ⟨bv, 0, none⟩), .pointer (some ⟨bi, 0, none⟩), .pointer none, .int .i64 0, .pointer none, .string ⟨#[109, 105, 115, 109, 97, 116, 99, 104]⟩] w fun e w' => e = .returned (.tuple #[.int .u8 5, .string ⟨#[]⟩, .bool false, .int .u64 iv, .bool true]) ∧ Below w.heap.size w w' := by
  have H := hideE (actMis v iv bv bi w hv hi)
  clear hv hi
  go_enter Try.func8, Try.ntmps8
  go_wp2_with fail
  refine (unhideE H).mono ?_
  rintro e w1 ⟨rfl, hb⟩
  have HB := hideE hb
  clear hb H
  go_wp2_with fail
  go_quiet (fail)
  go_wp2
  exact bodyPost_ret (v := .tuple #[.int .u8 5, .string ⟨#[]⟩, .bool false, .int .u64 iv, .bool true]) (by simp [results, Try.results8, go_sem]) rfl ⟨rfl, below_drewN ((unhideE HB).alloc (unhideE HB).size _) _⟩

theorem zactUnk (v : ByteArray) (iv : Int) (bv bi : Nat) (w : World) (hv : w.cell? ⟨bv, 0, none⟩ = some (.string v)) (hi : w.cell? ⟨bi, 0, none⟩ = some (.int .u64 iv)) :
    Calls Try.prog 8 #[.int .i64 0, .string ⟨#[112, 117, 116]⟩, .string ⟨#[]⟩, .pointer (some ⟨bv, 0, none⟩), .pointer (some ⟨bi, 0, none⟩), .pointer none, .int .i64 0, .pointer none, .string ⟨#[117, 110, 107, 110, 111, 119, 110]⟩] w fun e w' => e = .returned (.tuple #[.int .u8 4, .string v, .bool true, .int .u64 iv, .bool true]) ∧ Below w.heap.size w w' := by
  have H := hideE (actUnk v iv bv bi w hv hi)
  clear hv hi
  go_enter Try.func8, Try.ntmps8
  go_wp2_with fail
  refine (unhideE H).mono ?_
  rintro e w1 ⟨rfl, hb⟩
  have HB := hideE hb
  clear hb H
  go_wp2_with fail
  go_quiet (fail)
  go_wp2
  exact bodyPost_ret (v := .tuple #[.int .u8 4, .string v, .bool true, .int .u64 iv, .bool true]) (by simp [results, Try.results8, go_sem]) rfl ⟨rfl, below_drewN ((unhideE HB).alloc (unhideE HB).size _) _⟩


end Go.Proofs.Qxb6601795a.Af
