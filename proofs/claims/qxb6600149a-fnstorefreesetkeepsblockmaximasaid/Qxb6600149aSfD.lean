/-
  The laws' small helpers: the bound on lengths, the script's test, the copies, the number of calls, the field reads.
-/
import Derived.Test.Qxb6600149aSfC
namespace Go.Proofs.Qxb6600149a.Sf
open Go.RowKit

/-- A slice of numbers: without elements, or at an address where they lie. -/
def At (w : World) (k : IntKind) (a : Option Addr) (len : Nat) (z : Nat → Int) : Prop :=
  len = 0 ∨ ∃ b off, a = some ⟨b, off, none⟩ ∧ ∀ i, i < len → w.cell? ⟨b, off + i, none⟩ = some (.int k (z i))

theorem At.get {w : World} {k : IntKind} {a : Option Addr} {len : Nat} {z : Nat → Int} (h : At w k a len z) {j : Nat} (hj : j < len) : ∃ b off, a = some ⟨b, off, none⟩ ∧ w.cell? ⟨b, off + j, none⟩ = some (.int k (z j)) ∧ b < w.heap.size := by
  rcases h with h | ⟨b, off, h1, h2⟩
  · omega
  · exact ⟨b, off, h1, h2 j hj, World.block_lt_of_cell? w _ (h2 j hj)⟩

theorem At.later {w w' : World} {k : IntKind} {a : Option Addr} {len : Nat} {z : Nat → Int} (h : At w k a len z) (hb : Below w.heap.size w w') : At w' k a len z := by
  rcases h with h | ⟨b, off, h1, h2⟩
  · exact .inl h
  · exact .inr ⟨b, off, h1, fun i hi => (hb.cell (World.block_lt_of_cell? w _ (h2 i hi))).trans (h2 i hi)⟩

theorem bytes16 (a b : Option Addr) (la ca lb cb : Nat) (w : World) (h1 : la ≤ maxLen) (h2 : lb ≤ maxLen) :
    Calls Try.prog 16 #[.slice a la ca, .slice b lb cb] w fun e w' => ∃ r : Bool, e = .returned (.bool r) ∧ w' = w := by
  unfold maxLen at h1 h2
  go_enter Try.func16, Try.ntmps16
  go_wp2
  all_goals (go_ret; exact ⟨_, rfl, rfl⟩)

theorem bytes25 (a b : Option Addr) (la ca lb cb : Nat) (w : World) (h1 : la ≤ maxLen) (h2 : lb ≤ maxLen) :
    Calls Try.prog 25 #[.slice a la ca, .slice b lb cb] w fun e w' => ∃ r : Bool, e = .returned (.bool r) ∧ w' = w := by
  unfold maxLen at h1 h2
  go_enter Try.func25, Try.ntmps25
  go_wp2
  all_goals (go_ret; exact ⟨_, rfl, rfl⟩)

/-- What the script's test says of the first m pages. -/
def Fits (z : Nat → Int) (m : Nat) (r : Bool) : Prop := r = true → ∀ j, j < m → z j ≠ 0 ∧ z j ≤ 65536
def FitsRet (z : Nat → Int) (m : Nat) (w : World) (e : Ending) (w' : World) : Prop := ∃ r : Bool, e = .returned (.bool r) ∧ Fits z m r ∧ w' = w

theorem fits17 (a b : Option Addr) (la ca lb cb : Nat) (z : Nat → Int) (w : World) (h1 : la ≤ 65536) (h2 : lb ≤ 65536) (hA : At w .u32 a la z) :
    Calls Try.prog 17 #[.slice a la ca, .slice b lb cb] w (FitsRet z (min la lb) w) := by
  have H : ∀ m, m = min la lb → (m : Nat) ≤ la → m ≤ 65536 → Calls Try.prog 17 #[.slice a la ca, .slice b lb cb] w (FitsRet z m w) := by
    intro m hm hm1 hm2
    by_cases hl : lb < la
    · obtain rfl : m = lb := by omega
      clear hm
      go_enter Try.func17, Try.ntmps17
      go_wp2
      go_loop [6] (fun i => ∃ k : Nat, k ≤ m ∧ i = .int .i64 k ∧ ∀ j, j < k → z j ≠ 0 ∧ z j ≤ 65536) (fun i => m - (intOf i).toNat)
      case atStart => exact ⟨0, by omega, rfl, fun j hj => by omega⟩
      case round =>
        obtain ⟨k, hk, rfl, hall⟩ := hrel
        have HALL := hide hall
        clear hall
        by_cases hlt : k < m
        · obtain ⟨g, o, rfl, hc, _⟩ := hA.get (show k < la by omega)
          clear hA
          have l1 : (k : Int) < (la : Int) := by omega
          by_cases z0 : z k = 0
          · have t0 : (z k == 0) = true := by simpa using z0
            clear z0
            go_wp2
            go_ret
            exact ⟨false, rfl, fun h => by simp at h, rfl⟩
          · have t0 : (z k == 0) = false := by simpa using z0
            by_cases z1 : z k ≤ 65536
            · go_wp2
              go_round
              case rel =>
                refine ⟨k + 1, by omega, by go_num, fun j hj => ?_⟩
                by_cases e : j = k
                · subst e; exact ⟨z0, z1⟩
                · exact unhide HALL j (by omega)
              case measure => simp [intOf]; omega
            · go_wp2
              go_ret
              exact ⟨false, rfl, fun h => by simp at h, rfl⟩
        · go_wp2
          go_ret
          exact ⟨true, rfl, fun _ j hj => unhide HALL j (by omega), rfl⟩
    · obtain rfl : m = la := by omega
      clear hm
      go_enter Try.func17, Try.ntmps17
      go_wp2
      go_loop [6] (fun i => ∃ k : Nat, k ≤ m ∧ i = .int .i64 k ∧ ∀ j, j < k → z j ≠ 0 ∧ z j ≤ 65536) (fun i => m - (intOf i).toNat)
      case atStart => exact ⟨0, by omega, rfl, fun j hj => by omega⟩
      case round =>
        obtain ⟨k, hk, rfl, hall⟩ := hrel
        have HALL := hide hall
        clear hall
        by_cases hlt : k < m
        · obtain ⟨g, o, rfl, hc, _⟩ := hA.get (show k < m by omega)
          clear hA
          have l1 : (k : Int) < (m : Int) := by omega
          by_cases z0 : z k = 0
          · have t0 : (z k == 0) = true := by simpa using z0
            clear z0
            go_wp2
            go_ret
            exact ⟨false, rfl, fun h => by simp at h, rfl⟩
          · have t0 : (z k == 0) = false := by simpa using z0
            by_cases z1 : z k ≤ 65536
            · go_wp2
              go_round
              case rel =>
                refine ⟨k + 1, by omega, by go_num, fun j hj => ?_⟩
                by_cases e : j = k
                · subst e; exact ⟨z0, z1⟩
                · exact unhide HALL j (by omega)
              case measure => simp [intOf]; omega
            · go_wp2
              go_ret
              exact ⟨false, rfl, fun h => by simp at h, rfl⟩
        · go_wp2
          go_ret
          exact ⟨true, rfl, fun _ j hj => unhide HALL j (by omega), rfl⟩
  have := H (min la lb) rfl (by omega) (by omega)
  exact this

theorem calls20 (a b : Option Addr) (la ca lb cb : Nat) (w : World) :
    Calls Try.prog 20 #[.slice a la ca, .slice b lb cb] w fun e w' => e = .returned (.int .i64 (min la lb : Nat)) ∧ w' = w := by
  by_cases hl : lb < la
  · have e1 : min la lb = lb := by omega
    rw [e1]
    clear e1
    go_enter Try.func20, Try.ntmps20
    go_wp2
    go_ret
    exact ⟨rfl, rfl⟩
  · have e1 : min la lb = la := by omega
    rw [e1]
    clear e1
    go_enter Try.func20, Try.ntmps20
    go_wp2
    go_ret
    exact ⟨rfl, rfl⟩

theorem info43 : (Try.prog.info? 43).map (fun i => (i.zero, i.size, i.bytes)) = some (some (.int .u32 0), 1, 4) := by kernel_rfl

theorem clone18_nil (w : World) : Calls Try.prog 18 #[.slice none 0 0] w fun e w' => e = .returned (.slice none 0 0) ∧ w' = w := by
  have q := fun (w : World) (a : Option Addr) (n c n' c' : Nat) => Lib.run_eql_slice_nil (P := Try.prog) w _ _ a n c n' c' Try.underlying31
  go_enter Try.func18, Try.ntmps18
  go_wp2
  go_ret
  exact ⟨rfl, rfl⟩

theorem clone18_row (x : Addr) (len cap : Nat) (z : Nat → Int) (w : World) (hl : len ≤ 65536) (hA : At w .u32 (some x) len z) :
    Calls Try.prog 18 #[.slice (some x) len cap] w fun e w' => e = .returned (.slice (some ⟨w.heap.size, 0, none⟩) len len) ∧ w'.rowIs w.heap.size 43 len (fun i => .int .u32 (z i)) ∧ Below w.heap.size w w' := by
  have q := fun (w : World) (a : Option Addr) (n c n' c' : Nat) => Lib.run_eql_slice_nil (P := Try.prog) w _ _ a n c n' c' Try.underlying31
  have hmk := fun w => run_make_row' (P := Try.prog) 31 43 (.int .u32 0) 4 Try.underlying31 info43 rfl .i64 .i64 len (by omega) (by omega) w
  go_enter Try.func18, Try.ntmps18
  go_wp2
  clear q hmk
  go_loopw [4] (fun i wr => ∃ k : Nat, k ≤ len ∧ i = .int .i64 k ∧ wr.rowIs w.heap.size 43 len (fun i => .int .u32 (if i < k then z i else 0)) ∧ Below w.heap.size w wr) (fun i _ => len - (intOf i).toNat)
  case atStart => exact ⟨0, by omega, rfl, (World.rowIs_made w (.int .u32 0) len 43).congr (by simp), (Below.refl _ _).alloc (Nat.le_refl _) _⟩
  case round =>
    obtain ⟨k, hk, rfl, hrow, hbel⟩ := hrel
    by_cases hlt : k < len
    · obtain ⟨b, off, hx, hc, hb⟩ := hA.get hlt
      obtain rfl : x = ⟨b, off, none⟩ := by simpa using hx
      have c1 : wr.cell? ⟨b, off + k, none⟩ = some (.int .u32 (z k)) := (hbel.cell (by exact hb)).trans hc
      have c2 := hrow.cell hlt
      have c3 := hrow.frozen k
      clear hc hA hx
      go_wp2
      go_roundw
      case rel =>
        refine ⟨k + 1, by omega, by go_num, (hrow.set k (.int .u32 (z k))).congr ?_, hbel.setCell (by simp) _⟩
        intro i hi
        by_cases e : i = k
        · subst e; simp
        · by_cases e' : i < k
          · simp [e, e', show i < k + 1 by omega]
          · simp [e, e', show ¬ i < k + 1 by omega]
      case measure => simp [intOf]; omega
    · go_wp2
      go_ret
      exact ⟨rfl, hrow.congr (fun i hi => by simp [show i < k by omega]), hbel⟩

theorem clone18 (a : Option Addr) (len cap : Nat) (z : Nat → Int) (w : World) (hl : len ≤ 65536) (hA : At w .u32 a len z) (hn : a = none → len = 0 ∧ cap = 0) :
    Calls Try.prog 18 #[.slice a len cap] w fun e w' => ∃ a' cap', e = .returned (.slice a' len cap') ∧ At w' .u32 a' len z ∧ Below w.heap.size w w' := by
  cases a with
  | none =>
    obtain ⟨rfl, rfl⟩ := hn rfl
    exact (clone18_nil w).mono fun e w' ⟨h1, h2⟩ => ⟨none, 0, h1, .inl rfl, by rw [h2]; exact Below.refl _ _⟩
  | some x =>
    refine (clone18_row x len cap z w hl hA).mono fun e w' ⟨h1, h3, h4⟩ => ?_
    exact ⟨_, len, h1, .inr ⟨w.heap.size, 0, rfl, fun i hi => by rw [Nat.zero_add]; exact h3.cell hi⟩, h4⟩

theorem clone19_nil (w : World) : Calls Try.prog 19 #[.slice none 0 0] w fun e w' => e = .returned (.slice none 0 0) ∧ w' = w := by
  have q := fun (w : World) (a : Option Addr) (n c n' c' : Nat) => Lib.run_eql_slice_nil (P := Try.prog) w _ _ a n c n' c' Try.underlying32
  go_enter Try.func19, Try.ntmps19
  go_wp2
  go_ret
  exact ⟨rfl, rfl⟩

theorem clone19_row (x : Addr) (len cap : Nat) (z : Nat → Int) (w : World) (hl : len ≤ 65536) (hA : At w .i16 (some x) len z) :
    Calls Try.prog 19 #[.slice (some x) len cap] w fun e w' => e = .returned (.slice (some ⟨w.heap.size, 0, none⟩) len len) ∧ w'.rowIs w.heap.size 44 len (fun i => .int .i16 (z i)) ∧ Below w.heap.size w w' := by
  have q := fun (w : World) (a : Option Addr) (n c n' c' : Nat) => Lib.run_eql_slice_nil (P := Try.prog) w _ _ a n c n' c' Try.underlying32
  have hmk := fun w => run_make_row' (P := Try.prog) 32 44 (.int .i16 0) 2 Try.underlying32 info44 rfl .i64 .i64 len (by omega) (by omega) w
  go_enter Try.func19, Try.ntmps19
  go_wp2
  clear q hmk
  go_loopw [4] (fun i wr => ∃ k : Nat, k ≤ len ∧ i = .int .i64 k ∧ wr.rowIs w.heap.size 44 len (fun i => .int .i16 (if i < k then z i else 0)) ∧ Below w.heap.size w wr) (fun i _ => len - (intOf i).toNat)
  case atStart => exact ⟨0, by omega, rfl, (World.rowIs_made w (.int .i16 0) len 44).congr (by simp), (Below.refl _ _).alloc (Nat.le_refl _) _⟩
  case round =>
    obtain ⟨k, hk, rfl, hrow, hbel⟩ := hrel
    by_cases hlt : k < len
    · obtain ⟨b, off, hx, hc, hb⟩ := hA.get hlt
      obtain rfl : x = ⟨b, off, none⟩ := by simpa using hx
      have c1 : wr.cell? ⟨b, off + k, none⟩ = some (.int .i16 (z k)) := (hbel.cell (by exact hb)).trans hc
      have c2 := hrow.cell hlt
      have c3 := hrow.frozen k
      clear hc hA hx
      go_wp2
      go_roundw
      case rel =>
        refine ⟨k + 1, by omega, by go_num, (hrow.set k (.int .i16 (z k))).congr ?_, hbel.setCell (by simp) _⟩
        intro i hi
        by_cases e : i = k
        · subst e; simp
        · by_cases e' : i < k
          · simp [e, e', show i < k + 1 by omega]
          · simp [e, e', show ¬ i < k + 1 by omega]
      case measure => simp [intOf]; omega
    · go_wp2
      go_ret
      exact ⟨rfl, hrow.congr (fun i hi => by simp [show i < k by omega]), hbel⟩

theorem clone19 (a : Option Addr) (len cap : Nat) (z : Nat → Int) (w : World) (hl : len ≤ 65536) (hA : At w .i16 a len z) (hn : a = none → len = 0 ∧ cap = 0) :
    Calls Try.prog 19 #[.slice a len cap] w fun e w' => ∃ a' cap', e = .returned (.slice a' len cap') ∧ At w' .i16 a' len z ∧ Below w.heap.size w w' := by
  cases a with
  | none =>
    obtain ⟨rfl, rfl⟩ := hn rfl
    exact (clone19_nil w).mono fun e w' ⟨h1, h2⟩ => ⟨none, 0, h1, .inl rfl, by rw [h2]; exact Below.refl _ _⟩
  | some x =>
    refine (clone19_row x len cap z w hl hA).mono fun e w' ⟨h1, h3, h4⟩ => ?_
    exact ⟨_, len, h1, .inr ⟨w.heap.size, 0, rfl, fun i hi => by rw [Nat.zero_add]; exact h3.cell hi⟩, h4⟩

theorem takes26 (s : Nat) (v : Value) (w : World) (h : w.cell? ⟨s, 0, none⟩ = some v) : Calls Try.prog 26 #[.pointer (some ⟨s, 0, none⟩)] w fun e w' => e = .returned v ∧ w' = w := by
  go_enter Try.func26, Try.ntmps26
  go_wp2
  go_ret
  exact ⟨rfl, rfl⟩

theorem most24 (s : Nat) (v : Value) (w : World) (h : w.cell? ⟨s, 1, none⟩ = some v) : Calls Try.prog 24 #[.pointer (some ⟨s, 0, none⟩)] w fun e w' => e = .returned v ∧ w' = w := by
  go_enter Try.func24, Try.ntmps24
  go_wp2
  go_ret
  exact ⟨rfl, rfl⟩

theorem sets27 (s : Nat) (v : Value) (w : World) (h : w.cell? ⟨s, 2, none⟩ = some v) : Calls Try.prog 27 #[.pointer (some ⟨s, 0, none⟩)] w fun e w' => e = .returned v ∧ w' = w := by
  go_enter Try.func27, Try.ntmps27
  go_wp2
  go_ret
  exact ⟨rfl, rfl⟩

theorem rises28 (s : Nat) (v : Value) (w : World) (h : w.cell? ⟨s, 3, none⟩ = some v) : Calls Try.prog 28 #[.pointer (some ⟨s, 0, none⟩)] w fun e w' => e = .returned v ∧ w' = w := by
  go_enter Try.func28, Try.ntmps28
  go_wp2
  go_ret
  exact ⟨rfl, rfl⟩

end Go.Proofs.Qxb6600149a.Sf
