/-
  FnWritersCountTable: the copies.
-/
import Derived.Test.Qxb6601795aWrA
import Derived.Deep.OwnRows
import Derived.Deep.LoopGhost
namespace Go.Proofs.Qxb6601795a.Wr
open Go.RowKit

theorem info5 : (Try.prog.info? 5).map (fun i => (i.zero, i.size, i.bytes)) = some (some (.int .u8 0), 1, 1) := by kernel_rfl

theorem copy14_nil (w : World) : Calls Try.prog 14 #[.slice none 0 0] w fun e w' => e = .returned (.slice none 0 0) ∧ w' = w := by
  have q := fun (w : World) (a : Option Addr) (n c n' c' : Nat) => Lib.run_eql_slice_nil (P := Try.prog) w _ _ a n c n' c' Try.underlying33
  go_enter Try.func14, Try.ntmps14
  go_wp2
  go_ret
  exact ⟨rfl, rfl⟩

theorem copy14_row (x : Addr) (len cap : Nat) (z : Nat → Int) (w : World) (hl : len ≤ 4096) (hA : AtV w (some x) len (fun i => .int .u8 (z i))) :
    Calls Try.prog 14 #[.slice (some x) len cap] w fun e w' => e = .returned (.slice (some ⟨w.heap.size, 0, none⟩) len len) ∧ w'.rowIs w.heap.size 5 len (fun i => .int .u8 (z i)) ∧ Below w.heap.size w w' := by
  have q := fun (w : World) (a : Option Addr) (n c n' c' : Nat) => Lib.run_eql_slice_nil (P := Try.prog) w _ _ a n c n' c' Try.underlying33
  have hmk := fun w => run_make_row' (P := Try.prog) 33 5 (.int .u8 0) 1 Try.underlying33 info5 rfl .i64 .i64 len (by omega) (by omega) w
  go_enter Try.func14, Try.ntmps14
  go_wp2
  clear q hmk
  go_loopw [4] (fun i wr => ∃ k : Nat, k ≤ len ∧ i = .int .i64 k ∧ wr.rowIs w.heap.size 5 len (fun i => .int .u8 (if i < k then z i else 0)) ∧ Below w.heap.size w wr) (fun i _ => len - (intOf i).toNat)
  case atStart => exact ⟨0, by omega, rfl, (World.rowIs_made w (.int .u8 0) len 5).congr (by simp), (Below.refl _ _).alloc (Nat.le_refl _) _⟩
  case round =>
    obtain ⟨k, hk, rfl, hrow, hbel⟩ := hrel
    by_cases hlt : k < len
    · obtain ⟨b, off, hx, hc, hb⟩ := hA.get hlt
      obtain rfl : x = ⟨b, off, none⟩ := by simpa using hx
      have c1 : wr.cell? ⟨b, off + k, none⟩ = some (.int .u8 (z k)) := (hbel.cell (by exact hb)).trans hc
      have c2 := hrow.cell hlt
      have c3 := hrow.frozen k
      clear hc hA hx
      go_wp2
      go_roundw
      case rel =>
        refine ⟨k + 1, by omega, by go_num, (hrow.set k (.int .u8 (z k))).congr ?_, hbel.setCell (by simp) _⟩
        intro i hi
        by_cases e : i = k
        · subst e; simp
        · by_cases e' : i < k
          · simp [e, e', show i < k + 1 by omega]
          · simp [e, e', show ¬ i < k + 1 by omega]
      case measure => simp [intOf]; omega
    · go_wp2
      go_ret
      exact ⟨rfl, hrow.congr (fun i hi => by simp [show i < k by omega]), hbel⟩

theorem copy14 (a : Option Addr) (len cap : Nat) (z : Nat → Int) (w : World) (hl : len ≤ 4096) (hA : AtV w a len (fun i => .int .u8 (z i))) (hn : a = none → len = 0 ∧ cap = 0) :
    Calls Try.prog 14 #[.slice a len cap] w fun e w' => ∃ a' cap', e = .returned (.slice a' len cap') ∧ AtV w' a' len (fun i => .int .u8 (z i)) ∧ Below w.heap.size w w' := by
  cases a with
  | none =>
    obtain ⟨rfl, rfl⟩ := hn rfl
    exact (copy14_nil w).mono fun e w' ⟨h1, h2⟩ => ⟨none, 0, h1, .inl rfl, by rw [h2]; exact Below.refl _ _⟩
  | some x =>
    refine (copy14_row x len cap z w hl hA).mono fun e w' ⟨h1, h3, h4⟩ => ?_
    exact ⟨_, len, h1, .inr ⟨w.heap.size, 0, rfl, fun i hi => by rw [Nat.zero_add]; exact h3.cell hi⟩, h4⟩

theorem info9 : (Try.prog.info? 9).map (fun i => (i.zero, i.size, i.bytes)) = some (some (.string ByteArray.empty), 1, 16) := by kernel_rfl

theorem copy15_nil (w : World) : Calls Try.prog 15 #[.slice none 0 0] w fun e w' => e = .returned (.slice none 0 0) ∧ w' = w := by
  have q := fun (w : World) (a : Option Addr) (n c n' c' : Nat) => Lib.run_eql_slice_nil (P := Try.prog) w _ _ a n c n' c' Try.underlying34
  go_enter Try.func15, Try.ntmps15
  go_wp2
  go_ret
  exact ⟨rfl, rfl⟩

theorem copy15_row (x : Addr) (len cap : Nat) (z : Nat → ByteArray) (w : World) (hl : len ≤ 4096) (hA : AtV w (some x) len (fun i => .string (z i))) :
    Calls Try.prog 15 #[.slice (some x) len cap] w fun e w' => e = .returned (.slice (some ⟨w.heap.size, 0, none⟩) len len) ∧ w'.rowIs w.heap.size 9 len (fun i => .string (z i)) ∧ Below w.heap.size w w' := by
  have q := fun (w : World) (a : Option Addr) (n c n' c' : Nat) => Lib.run_eql_slice_nil (P := Try.prog) w _ _ a n c n' c' Try.underlying34
  have hmk := fun w => run_make_row' (P := Try.prog) 34 9 (.string ByteArray.empty) 16 Try.underlying34 info9 rfl .i64 .i64 len (by omega) (by omega) w
  go_enter Try.func15, Try.ntmps15
  go_wp2
  clear q hmk
  go_loopw [4] (fun i wr => ∃ k : Nat, k ≤ len ∧ i = .int .i64 k ∧ wr.rowIs w.heap.size 9 len (fun i => .string (if i < k then z i else ByteArray.empty)) ∧ Below w.heap.size w wr) (fun i _ => len - (intOf i).toNat)
  case atStart => exact ⟨0, by omega, rfl, (World.rowIs_made w (.string ByteArray.empty) len 9).congr (by simp), (Below.refl _ _).alloc (Nat.le_refl _) _⟩
  case round =>
    obtain ⟨k, hk, rfl, hrow, hbel⟩ := hrel
    by_cases hlt : k < len
    · obtain ⟨b, off, hx, hc, hb⟩ := hA.get hlt
      obtain rfl : x = ⟨b, off, none⟩ := by simpa using hx
      have c1 : wr.cell? ⟨b, off + k, none⟩ = some (.string (z k)) := (hbel.cell (by exact hb)).trans hc
      have c2 := hrow.cell hlt
      have c3 := hrow.frozen k
      clear hc hA hx
      go_wp2
      go_roundw
      case rel =>
        refine ⟨k + 1, by omega, by go_num, (hrow.set k (.string (z k))).congr ?_, hbel.setCell (by simp) _⟩
        intro i hi
        by_cases e : i = k
        · subst e; simp
        · by_cases e' : i < k
          · simp [e, e', show i < k + 1 by omega]
          · simp [e, e', show ¬ i < k + 1 by omega]
      case measure => simp [intOf]; omega
    · go_wp2
      go_ret
      exact ⟨rfl, hrow.congr (fun i hi => by simp [show i < k by omega]), hbel⟩

theorem copy15 (a : Option Addr) (len cap : Nat) (z : Nat → ByteArray) (w : World) (hl : len ≤ 4096) (hA : AtV w a len (fun i => .string (z i))) (hn : a = none → len = 0 ∧ cap = 0) :
    Calls Try.prog 15 #[.slice a len cap] w fun e w' => ∃ a' cap', e = .returned (.slice a' len cap') ∧ AtV w' a' len (fun i => .string (z i)) ∧ Below w.heap.size w w' := by
  cases a with
  | none =>
    obtain ⟨rfl, rfl⟩ := hn rfl
    exact (copy15_nil w).mono fun e w' ⟨h1, h2⟩ => ⟨none, 0, h1, .inl rfl, by rw [h2]; exact Below.refl _ _⟩
  | some x =>
    refine (copy15_row x len cap z w hl hA).mono fun e w' ⟨h1, h3, h4⟩ => ?_
    exact ⟨_, len, h1, .inr ⟨w.heap.size, 0, rfl, fun i hi => by rw [Nat.zero_add]; exact h3.cell hi⟩, h4⟩

theorem info4 : (Try.prog.info? 4).map (fun i => (i.zero, i.size, i.bytes)) = some (some (.bool false), 1, 1) := by kernel_rfl

theorem copy16_nil (w : World) : Calls Try.prog 16 #[.slice none 0 0] w fun e w' => e = .returned (.slice none 0 0) ∧ w' = w := by
  have q := fun (w : World) (a : Option Addr) (n c n' c' : Nat) => Lib.run_eql_slice_nil (P := Try.prog) w _ _ a n c n' c' Try.underlying35
  go_enter Try.func16, Try.ntmps16
  go_wp2
  go_ret
  exact ⟨rfl, rfl⟩

theorem copy16_row (x : Addr) (len cap : Nat) (z : Nat → Bool) (w : World) (hl : len ≤ 4096) (hA : AtV w (some x) len (fun i => .bool (z i))) :
    Calls Try.prog 16 #[.slice (some x) len cap] w fun e w' => e = .returned (.slice (some ⟨w.heap.size, 0, none⟩) len len) ∧ w'.rowIs w.heap.size 4 len (fun i => .bool (z i)) ∧ Below w.heap.size w w' := by
  have q := fun (w : World) (a : Option Addr) (n c n' c' : Nat) => Lib.run_eql_slice_nil (P := Try.prog) w _ _ a n c n' c' Try.underlying35
  have hmk := fun w => run_make_row' (P := Try.prog) 35 4 (.bool false) 1 Try.underlying35 info4 rfl .i64 .i64 len (by omega) (by omega) w
  go_enter Try.func16, Try.ntmps16
  go_wp2
  clear q hmk
  go_loopw [4] (fun i wr => ∃ k : Nat, k ≤ len ∧ i = .int .i64 k ∧ wr.rowIs w.heap.size 4 len (fun i => .bool (if i < k then z i else false)) ∧ Below w.heap.size w wr) (fun i _ => len - (intOf i).toNat)
  case atStart => exact ⟨0, by omega, rfl, (World.rowIs_made w (.bool false) len 4).congr (by simp), (Below.refl _ _).alloc (Nat.le_refl _) _⟩
  case round =>
    obtain ⟨k, hk, rfl, hrow, hbel⟩ := hrel
    by_cases hlt : k < len
    · obtain ⟨b, off, hx, hc, hb⟩ := hA.get hlt
      obtain rfl : x = ⟨b, off, none⟩ := by simpa using hx
      have c1 : wr.cell? ⟨b, off + k, none⟩ = some (.bool (z k)) := (hbel.cell (by exact hb)).trans hc
      have c2 := hrow.cell hlt
      have c3 := hrow.frozen k
      clear hc hA hx
      go_wp2
      go_roundw
      case rel =>
        refine ⟨k + 1, by omega, by go_num, (hrow.set k (.bool (z k))).congr ?_, hbel.setCell (by simp) _⟩
        intro i hi
        by_cases e : i = k
        · subst e; simp
        · by_cases e' : i < k
          · simp [e, e', show i < k + 1 by omega]
          · simp [e, e', show ¬ i < k + 1 by omega]
      case measure => simp [intOf]; omega
    · go_wp2
      go_ret
      exact ⟨rfl, hrow.congr (fun i hi => by simp [show i < k by omega]), hbel⟩

theorem copy16 (a : Option Addr) (len cap : Nat) (z : Nat → Bool) (w : World) (hl : len ≤ 4096) (hA : AtV w a len (fun i => .bool (z i))) (hn : a = none → len = 0 ∧ cap = 0) :
    Calls Try.prog 16 #[.slice a len cap] w fun e w' => ∃ a' cap', e = .returned (.slice a' len cap') ∧ AtV w' a' len (fun i => .bool (z i)) ∧ Below w.heap.size w w' := by
  cases a with
  | none =>
    obtain ⟨rfl, rfl⟩ := hn rfl
    exact (copy16_nil w).mono fun e w' ⟨h1, h2⟩ => ⟨none, 0, h1, .inl rfl, by rw [h2]; exact Below.refl _ _⟩
  | some x =>
    refine (copy16_row x len cap z w hl hA).mono fun e w' ⟨h1, h3, h4⟩ => ?_
    exact ⟨_, len, h1, .inr ⟨w.heap.size, 0, rfl, fun i hi => by rw [Nat.zero_add]; exact h3.cell hi⟩, h4⟩

theorem info22 : (Try.prog.info? 22).map (fun i => (i.zero, i.size, i.bytes)) = some (some (.int .u64 0), 1, 8) := by kernel_rfl

theorem copy17_nil (w : World) : Calls Try.prog 17 #[.slice none 0 0] w fun e w' => e = .returned (.slice none 0 0) ∧ w' = w := by
  have q := fun (w : World) (a : Option Addr) (n c n' c' : Nat) => Lib.run_eql_slice_nil (P := Try.prog) w _ _ a n c n' c' Try.underlying36
  go_enter Try.func17, Try.ntmps17
  go_wp2
  go_ret
  exact ⟨rfl, rfl⟩

theorem copy17_row (x : Addr) (len cap : Nat) (z : Nat → Int) (w : World) (hl : len ≤ 4096) (hA : AtV w (some x) len (fun i => .int .u64 (z i))) :
    Calls Try.prog 17 #[.slice (some x) len cap] w fun e w' => e = .returned (.slice (some ⟨w.heap.size, 0, none⟩) len len) ∧ w'.rowIs w.heap.size 22 len (fun i => .int .u64 (z i)) ∧ Below w.heap.size w w' := by
  have q := fun (w : World) (a : Option Addr) (n c n' c' : Nat) => Lib.run_eql_slice_nil (P := Try.prog) w _ _ a n c n' c' Try.underlying36
  have hmk := fun w => run_make_row' (P := Try.prog) 36 22 (.int .u64 0) 8 Try.underlying36 info22 rfl .i64 .i64 len (by omega) (by omega) w
  go_enter Try.func17, Try.ntmps17
  go_wp2
  clear q hmk
  go_loopw [4] (fun i wr => ∃ k : Nat, k ≤ len ∧ i = .int .i64 k ∧ wr.rowIs w.heap.size 22 len (fun i => .int .u64 (if i < k then z i else 0)) ∧ Below w.heap.size w wr) (fun i _ => len - (intOf i).toNat)
  case atStart => exact ⟨0, by omega, rfl, (World.rowIs_made w (.int .u64 0) len 22).congr (by simp), (Below.refl _ _).alloc (Nat.le_refl _) _⟩
  case round =>
    obtain ⟨k, hk, rfl, hrow, hbel⟩ := hrel
    by_cases hlt : k < len
    · obtain ⟨b, off, hx, hc, hb⟩ := hA.get hlt
      obtain rfl : x = ⟨b, off, none⟩ := by simpa using hx
      have c1 : wr.cell? ⟨b, off + k, none⟩ = some (.int .u64 (z k)) := (hbel.cell (by exact hb)).trans hc
      have c2 := hrow.cell hlt
      have c3 := hrow.frozen k
      clear hc hA hx
      go_wp2
      go_roundw
      case rel =>
        refine ⟨k + 1, by omega, by go_num, (hrow.set k (.int .u64 (z k))).congr ?_, hbel.setCell (by simp) _⟩
        intro i hi
        by_cases e : i = k
        · subst e; simp
        · by_cases e' : i < k
          · simp [e, e', show i < k + 1 by omega]
          · simp [e, e', show ¬ i < k + 1 by omega]
      case measure => simp [intOf]; omega
    · go_wp2
      go_ret
      exact ⟨rfl, hrow.congr (fun i hi => by simp [show i < k by omega]), hbel⟩

theorem copy17 (a : Option Addr) (len cap : Nat) (z : Nat → Int) (w : World) (hl : len ≤ 4096) (hA : AtV w a len (fun i => .int .u64 (z i))) (hn : a = none → len = 0 ∧ cap = 0) :
    Calls Try.prog 17 #[.slice a len cap] w fun e w' => ∃ a' cap', e = .returned (.slice a' len cap') ∧ AtV w' a' len (fun i => .int .u64 (z i)) ∧ Below w.heap.size w w' := by
  cases a with
  | none =>
    obtain ⟨rfl, rfl⟩ := hn rfl
    exact (copy17_nil w).mono fun e w' ⟨h1, h2⟩ => ⟨none, 0, h1, .inl rfl, by rw [h2]; exact Below.refl _ _⟩
  | some x =>
    refine (copy17_row x len cap z w hl hA).mono fun e w' ⟨h1, h3, h4⟩ => ?_
    exact ⟨_, len, h1, .inr ⟨w.heap.size, 0, rfl, fun i hi => by rw [Nat.zero_add]; exact h3.cell hi⟩, h4⟩

theorem info2 : (Try.prog.info? 2).map (fun i => (i.zero, i.size, i.bytes)) = some (some (.int .i64 0), 1, 8) := by kernel_rfl

theorem copy18_nil (w : World) : Calls Try.prog 18 #[.slice none 0 0] w fun e w' => e = .returned (.slice none 0 0) ∧ w' = w := by
  have q := fun (w : World) (a : Option Addr) (n c n' c' : Nat) => Lib.run_eql_slice_nil (P := Try.prog) w _ _ a n c n' c' Try.underlying37
  go_enter Try.func18, Try.ntmps18
  go_wp2
  go_ret
  exact ⟨rfl, rfl⟩

theorem copy18_row (x : Addr) (len cap : Nat) (z : Nat → Int) (w : World) (hl : len ≤ 4096) (hA : AtV w (some x) len (fun i => .int .i64 (z i))) :
    Calls Try.prog 18 #[.slice (some x) len cap] w fun e w' => e = .returned (.slice (some ⟨w.heap.size, 0, none⟩) len len) ∧ w'.rowIs w.heap.size 2 len (fun i => .int .i64 (z i)) ∧ Below w.heap.size w w' := by
  have q := fun (w : World) (a : Option Addr) (n c n' c' : Nat) => Lib.run_eql_slice_nil (P := Try.prog) w _ _ a n c n' c' Try.underlying37
  have hmk := fun w => run_make_row' (P := Try.prog) 37 2 (.int .i64 0) 8 Try.underlying37 info2 rfl .i64 .i64 len (by omega) (by omega) w
  go_enter Try.func18, Try.ntmps18
  go_wp2
  clear q hmk
  go_loopw [4] (fun i wr => ∃ k : Nat, k ≤ len ∧ i = .int .i64 k ∧ wr.rowIs w.heap.size 2 len (fun i => .int .i64 (if i < k then z i else 0)) ∧ Below w.heap.size w wr) (fun i _ => len - (intOf i).toNat)
  case atStart => exact ⟨0, by omega, rfl, (World.rowIs_made w (.int .i64 0) len 2).congr (by simp), (Below.refl _ _).alloc (Nat.le_refl _) _⟩
  case round =>
    obtain ⟨k, hk, rfl, hrow, hbel⟩ := hrel
    by_cases hlt : k < len
    · obtain ⟨b, off, hx, hc, hb⟩ := hA.get hlt
      obtain rfl : x = ⟨b, off, none⟩ := by simpa using hx
      have c1 : wr.cell? ⟨b, off + k, none⟩ = some (.int .i64 (z k)) := (hbel.cell (by exact hb)).trans hc
      have c2 := hrow.cell hlt
      have c3 := hrow.frozen k
      clear hc hA hx
      go_wp2
      go_roundw
      case rel =>
        refine ⟨k + 1, by omega, by go_num, (hrow.set k (.int .i64 (z k))).congr ?_, hbel.setCell (by simp) _⟩
        intro i hi
        by_cases e : i = k
        · subst e; simp
        · by_cases e' : i < k
          · simp [e, e', show i < k + 1 by omega]
          · simp [e, e', show ¬ i < k + 1 by omega]
      case measure => simp [intOf]; omega
    · go_wp2
      go_ret
      exact ⟨rfl, hrow.congr (fun i hi => by simp [show i < k by omega]), hbel⟩

theorem copy18 (a : Option Addr) (len cap : Nat) (z : Nat → Int) (w : World) (hl : len ≤ 4096) (hA : AtV w a len (fun i => .int .i64 (z i))) (hn : a = none → len = 0 ∧ cap = 0) :
    Calls Try.prog 18 #[.slice a len cap] w fun e w' => ∃ a' cap', e = .returned (.slice a' len cap') ∧ AtV w' a' len (fun i => .int .i64 (z i)) ∧ Below w.heap.size w w' := by
  cases a with
  | none =>
    obtain ⟨rfl, rfl⟩ := hn rfl
    exact (copy18_nil w).mono fun e w' ⟨h1, h2⟩ => ⟨none, 0, h1, .inl rfl, by rw [h2]; exact Below.refl _ _⟩
  | some x =>
    refine (copy18_row x len cap z w hl hA).mono fun e w' ⟨h1, h3, h4⟩ => ?_
    exact ⟨_, len, h1, .inr ⟨w.heap.size, 0, rfl, fun i hi => by rw [Nat.zero_add]; exact h3.cell hi⟩, h4⟩

end Go.Proofs.Qxb6601795a.Wr
