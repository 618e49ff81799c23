/-
  FnWritersCountTable: the small functions: zzWrites, action.writes, zzWriterModel, zzFirstWriter, ZZWriterOf.
-/
import Derived.Test.Qxb6601795aWrP
import Derived.WalkSpells
import Derived.WalkSmall
import Derived.Deep.QuietTactic
import Derived.BigQuiet
import Derived.Handy
import Derived.Maps.OwnOps
namespace Go.Proofs.Qxb6601795a.Wr
open Go.RowKit Go.Maps

/-- A slice: without elements, or at an address where they lie. -/
def AtV (w : World) (a : Option Addr) (len : Nat) (f : Nat → Value) : Prop :=
  len = 0 ∨ ∃ b off, a = some ⟨b, off, none⟩ ∧ ∀ i, i < len → w.cell? ⟨b, off + i, none⟩ = some (f i)

theorem AtV.get {w : World} {a : Option Addr} {len : Nat} {f : Nat → Value} (h : AtV w a len f) {j : Nat} (hj : j < len) : ∃ b off, a = some ⟨b, off, none⟩ ∧ w.cell? ⟨b, off + j, none⟩ = some (f j) ∧ b < w.heap.size := by
  rcases h with h | ⟨b, off, h1, h2⟩
  · omega
  · exact ⟨b, off, h1, h2 j hj, World.block_lt_of_cell? w _ (h2 j hj)⟩

theorem AtV.later {w w' : World} {a : Option Addr} {len : Nat} {f : Nat → Value} (h : AtV w a len f) (hb : Below w.heap.size w w') : AtV w' a len f := by
  rcases h with h | ⟨b, off, h1, h2⟩
  · exact .inl h
  · exact .inr ⟨b, off, h1, fun i hi => (hb.cell (World.block_lt_of_cell? w _ (h2 i hi))).trans (h2 i hi)⟩

theorem writes20 (x : Int) (w : World) : Calls Try.prog 20 #[.int .u8 x] w fun e w' => e = .returned (.bool (wB x)) ∧ w' = w := by
  by_cases h2 : x = 2
  · subst h2
    go_enter Try.func20, Try.ntmps20
    go_wp2
    go_ret
    exact ⟨rfl, rfl⟩
  · have t2 : (x == 2) = false := by simpa using h2
    by_cases h3 : x = 3
    · subst h3
      go_enter Try.func20, Try.ntmps20
      go_wp2
      go_ret
      exact ⟨rfl, rfl⟩
    · have t3 : (x == 3) = false := by simpa using h3
      by_cases h4 : x = 4
      · subst h4
        go_enter Try.func20, Try.ntmps20
        go_wp2
        go_ret
        exact ⟨rfl, rfl⟩
      · have t4 : (x == 4) = false := by simpa using h4
        by_cases h6 : x = 6
        · subst h6
          go_enter Try.func20, Try.ntmps20
          go_wp2
          go_ret
          exact ⟨rfl, rfl⟩
        · have t6 : (x == 6) = false := by simpa using h6
          go_enter Try.func20, Try.ntmps20
          go_wp2
          go_ret
          exact ⟨by simp [wB, t2, t3, t4, t6], rfl⟩

theorem writes27 (x n : Int) (s : ByteArray) (p : Bool) (w : World) : Calls Try.prog 27 #[.agg #[.int .u8 x, .string s, .bool p, .int .u64 n]] w fun e w' => e = .returned (.bool (wB x)) ∧ w' = w.alloc (.cells #[.int .u8 x, .string s, .bool p, .int .u64 n] 56) := by
  by_cases h2 : x = 2
  · subst h2
    go_enter Try.func27, Try.ntmps27
    go_wp2
    go_ret
    exact ⟨rfl, rfl⟩
  · have t2 : (x == 2) = false := by simpa using h2
    by_cases h3 : x = 3
    · subst h3
      go_enter Try.func27, Try.ntmps27
      go_wp2
      go_ret
      exact ⟨rfl, rfl⟩
    · have t3 : (x == 3) = false := by simpa using h3
      by_cases h4 : x = 4
      · subst h4
        go_enter Try.func27, Try.ntmps27
        go_wp2
        go_ret
        exact ⟨rfl, rfl⟩
      · have t4 : (x == 4) = false := by simpa using h4
        by_cases h6 : x = 6
        · subst h6
          go_enter Try.func27, Try.ntmps27
          go_wp2
          go_ret
          exact ⟨rfl, rfl⟩
        · have t6 : (x == 6) = false := by simpa using h6
          go_enter Try.func27, Try.ntmps27
          go_wp2
          go_ret
          exact ⟨by simp [wB, t2, t3, t4, t6], rfl⟩

theorem cJ_le (dd : Nat → Int) (ss : Nat → ByteArray) (bb : Nat → Bool) (v : ByteArray) (p : Bool) : ∀ k, cJ dd ss bb v p k ≤ k
  | 0 => Nat.le_refl _
  | k + 1 => by
    have := cJ_le dd ss bb v p k
    unfold cJ
    split <;> omega

section
variable {dd : Nat → Int} {ss : Nat → ByteArray} {bb : Nat → Bool} {v : ByteArray} {p : Bool} {k : Nat}
theorem cJ_hit (h : mt dd ss bb v p k = true) : cJ dd ss bb v p (k + 1) = cJ dd ss bb v p k + 1 := by
  show (if mt dd ss bb v p k then _ else _) = _
  rw [if_pos h]
theorem cJ_miss (h : mt dd ss bb v p k = false) : cJ dd ss bb v p (k + 1) = cJ dd ss bb v p k := by
  show (if mt dd ss bb v p k then _ else _) = _
  rw [h]; rfl
theorem aJ_first (h : mt dd ss bb v p k = true) (h0 : cJ dd ss bb v p k = 0) : aJ dd ss bb v p (k + 1) = (k : Int) := by
  show (if mt dd ss bb v p k && cJ dd ss bb v p k == 0 then _ else _) = _
  rw [h, h0]; rfl
theorem aJ_later (h0 : ¬ cJ dd ss bb v p k = 0) : aJ dd ss bb v p (k + 1) = aJ dd ss bb v p k := by
  show (if mt dd ss bb v p k && cJ dd ss bb v p k == 0 then _ else _) = _
  rw [show (cJ dd ss bb v p k == 0) = false by simpa using h0]
  simp
theorem aJ_miss (h : mt dd ss bb v p k = false) : aJ dd ss bb v p (k + 1) = aJ dd ss bb v p k := by
  show (if mt dd ss bb v p k && cJ dd ss bb v p k == 0 then _ else _) = _
  rw [h]; rfl
end

set_option maxHeartbeats 1000000 in
theorem model23 (dd : Nat → Int) (ss : Nat → ByteArray) (bb : Nat → Bool) (a1 a2 a3 : Option Addr) (n c1 c2 c3 : Nat) (v : ByteArray) (p : Bool) (w : World) (hn : n ≤ 4096)
    (hA : AtV w a1 n (fun i => .int .u8 (dd i))) (hB : AtV w a2 n (fun i => .string (ss i))) (hC : AtV w a3 n (fun i => .bool (bb i))) :
    Calls Try.prog 23 #[.slice a1 n c1, .slice a2 n c2, .slice a3 n c3, .string v, .bool p] w fun e w' =>
      e = .returned (.tuple #[.int .i64 (mv (cJ dd ss bb v p n) (aJ dd ss bb v p n)), .bool (decide (0 < cJ dd ss bb v p n))]) ∧ w' = w := by
  have HA := hide hA
  have HB := hide hB
  have HC := hide hC
  clear hA hB hC
  go_enter Try.func23, Try.ntmps23
  go_wp2
  go_loop [12, 13, 14] (fun x y i => ∃ k : Nat, k ≤ n ∧ i = .int .i64 k ∧ x = .int .i64 (cJ dd ss bb v p k : Nat) ∧ y = .int .i64 (aJ dd ss bb v p k)) (fun _ _ i => n - (intOf i).toNat)
  case atStart => exact ⟨0, by omega, rfl, rfl, rfl⟩
  case round =>
    obtain ⟨k, hk, rfl, rfl, rfl⟩ := hrel
    have hck := cJ_le dd ss bb v p k
    by_cases hlt : k < n
    · obtain ⟨g1, o1, rfl, e1, _⟩ := (unhide HA).get hlt
      obtain ⟨g2, o2, rfl, e2, _⟩ := (unhide HB).get hlt
      obtain ⟨g3, o3, rfl, e3, _⟩ := (unhide HC).get hlt
      have i1 : (k : Int) < (n : Int) := by omega
      by_cases hw : wB (dd k) = true
      · by_cases hs : (ss k).toList = v.toList
        · have ts : ((ss k).toList == v.toList) = true := by simpa using hs
          by_cases hb : bb k = p
          · have tb : (bb k == p) = true := by simpa using hb
            have hm : mt dd ss bb v p k = true := by simp [mt, hw, hs, hb]
            by_cases hc0 : cJ dd ss bb v p k = 0
            · have HM := hide hm
              have H0 := hide hc0
              have t1 : ((cJ dd ss bb v p k : Int) + 1 == 1) = true := by simp [hc0]
              clear hm hs hb hc0
              go_wp2_with (go_at_call 20; refine (writes20 _ _).mono ?_; rintro e w1 ⟨rfl, hw1⟩; rw [hw1]; clear hw1 w1)
              go_round
              case rel => exact ⟨k + 1, by omega, by go_num, by rw [cJ_hit (unhide HM)]; go_num, by rw [aJ_first (unhide HM) (unhide H0)]⟩
              case measure => simp [intOf]; omega
            · have HM := hide hm
              have H0 := hide hc0
              have t1 : ((cJ dd ss bb v p k : Int) + 1 == 1) = false := by simp; omega
              clear hm hs hb hc0
              go_wp2_with (go_at_call 20; refine (writes20 _ _).mono ?_; rintro e w1 ⟨rfl, hw1⟩; rw [hw1]; clear hw1 w1)
              go_round
              case rel => exact ⟨k + 1, by omega, by go_num, by rw [cJ_hit (unhide HM)]; go_num, by rw [aJ_later (unhide H0)]⟩
              case measure => simp [intOf]; omega
          · have tb : (bb k == p) = false := by simpa using hb
            have HM := hide (show mt dd ss bb v p k = false by simp [mt, hb])
            clear hs hb
            go_wp2_with (go_at_call 20; refine (writes20 _ _).mono ?_; rintro e w1 ⟨rfl, hw1⟩; rw [hw1]; clear hw1 w1)
            go_round
            case rel => exact ⟨k + 1, by omega, by go_num, by rw [cJ_miss (unhide HM)], by rw [aJ_miss (unhide HM)]⟩
            case measure => simp [intOf]; omega
        · have ts : ((ss k).toList == v.toList) = false := by simpa using hs
          have HM := hide (show mt dd ss bb v p k = false by simp [mt, hs])
          clear hs
          go_wp2_with (go_at_call 20; refine (writes20 _ _).mono ?_; rintro e w1 ⟨rfl, hw1⟩; rw [hw1]; clear hw1 w1)
          go_round
          case rel => exact ⟨k + 1, by omega, by go_num, by rw [cJ_miss (unhide HM)], by rw [aJ_miss (unhide HM)]⟩
          case measure => simp [intOf]; omega
      · have hw' : wB (dd k) = false := by simpa using hw
        have HM := hide (show mt dd ss bb v p k = false by simp [mt, hw'])
        clear hw
        go_wp2_with (go_at_call 20; refine (writes20 _ _).mono ?_; rintro e w1 ⟨rfl, hw1⟩; rw [hw1]; clear hw1 w1)
        go_round
        case rel => exact ⟨k + 1, by omega, by go_num, by rw [cJ_miss (unhide HM)], by rw [aJ_miss (unhide HM)]⟩
        case measure => simp [intOf]; omega
    · obtain rfl : n = k := by omega
      obtain ⟨c, hc⟩ : ∃ c, cJ dd ss bb v p n = c := ⟨_, rfl⟩
      obtain ⟨b, hb⟩ : ∃ b, aJ dd ss bb v p n = b := ⟨_, rfl⟩
      rw [hc, hb]
      have HCC := hide hc
      have HBB := hide hb
      clear hc hb
      by_cases c0 : c = 0
      · subst c0
        go_wp2
        go_ret2
        exact ⟨by rw [unhide HCC, unhide HBB]; simp [mv], rfl⟩
      · have t0 : ((c : Int) == 0) = false := by simp; omega
        have cp : 0 < c := by omega
        by_cases c1 : 1 < c
        · go_wp2
          go_ret2
          exact ⟨by rw [unhide HCC, unhide HBB]; simp [mv, c0, c1, cp], rfl⟩
        · go_wp2
          go_ret2
          exact ⟨by rw [unhide HCC, unhide HBB]; simp [mv, c0, c1, cp], rfl⟩

/-- No operation ahead of i writes i's register. -/
def fwB (dd : Nat → Int) (ss : Nat → ByteArray) (bb : Nat → Bool) (i : Nat) : Bool := cJ dd ss bb (ss i) (bb i) i == 0

theorem cJ_mono (dd : Nat → Int) (ss : Nat → ByteArray) (bb : Nat → Bool) (v : ByteArray) (p : Bool) {i : Nat} : ∀ {j : Nat}, i ≤ j → cJ dd ss bb v p i ≤ cJ dd ss bb v p j
  | 0, h => by obtain rfl : i = 0 := by omega
               exact Nat.le_refl _
  | j + 1, h => by
    by_cases e : i = j + 1
    · subst e; exact Nat.le_refl _
    · have h1 := cJ_mono dd ss bb v p (i := i) (j := j) (by omega)
      cases hm : mt dd ss bb v p j
      · rw [cJ_miss hm]; exact h1
      · rw [cJ_hit hm]; omega

/-- The same, the answer known. -/
theorem writes20c (x : Int) (b : Bool) (w : World) (h : wB x = b) : Calls Try.prog 20 #[.int .u8 x] w fun e w' => e = .returned (.bool b) ∧ w' = w := by
  have := writes20 x w
  rw [h] at this
  exact this

set_option maxHeartbeats 1000000 in
theorem first21 (dd : Nat → Int) (ss : Nat → ByteArray) (bb : Nat → Bool) (a1 a2 a3 : Option Addr) (n c1 c2 c3 i : Nat) (w : World) (hn : n ≤ 4096) (hi : i < n)
    (hA : AtV w a1 n (fun i => .int .u8 (dd i))) (hB : AtV w a2 n (fun i => .string (ss i))) (hC : AtV w a3 n (fun i => .bool (bb i))) :
    Calls Try.prog 21 #[.slice a1 n c1, .slice a2 n c2, .slice a3 n c3, .int .i64 i] w fun e w' => e = .returned (.bool (fwB dd ss bb i)) ∧ ∃ q, w' = w.drewN q := by
  obtain ⟨g1, o1, rfl, _, _⟩ := hA.get hi
  obtain ⟨g2, o2, rfl, f2, _⟩ := hB.get hi
  obtain ⟨g3, o3, rfl, f3, _⟩ := hC.get hi
  have HA := hide (fun j (hj : j < n) => (hA.get hj))
  have HB := hide (fun j (hj : j < n) => (hB.get hj))
  have HC := hide (fun j (hj : j < n) => (hC.get hj))
  clear hA hB hC
  have ii : (i : Int) < (n : Int) := by omega
  go_enter Try.func21, Try.ntmps21
  go_wp2
  go_loopw [9] (fun x wr => ∃ j : Nat, j ≤ i ∧ x = .int .i64 j ∧ cJ dd ss bb (ss i) (bb i) j = 0 ∧ ∃ q, wr = w.drewN q) (fun x _ => i - (intOf x).toNat)
  case atStart => exact ⟨0, by omega, rfl, rfl, 0, rfl⟩
  case round =>
    obtain ⟨j, hj, rfl, hc, q, hwr⟩ := hrel
    have HCJ := hide hc
    have HWR := hide hwr
    have f2' : wr.cell? ⟨g2, o2 + i, none⟩ = some (.string (ss i)) := by rw [hwr]; exact f2
    have f3' : wr.cell? ⟨g3, o3 + i, none⟩ = some (.bool (bb i)) := by rw [hwr]; exact f3
    clear hc
    by_cases hlt : j < i
    · obtain ⟨h1, k1, he1, e1, _⟩ := unhide HA j (by omega)
      obtain ⟨h2, k2, he2, e2, _⟩ := unhide HB j (by omega)
      obtain ⟨h3, k3, he3, e3, _⟩ := unhide HC j (by omega)
      simp only [Option.some.injEq, Addr.mk.injEq, and_true] at he1 he2 he3
      obtain ⟨rfl, rfl⟩ := he1
      obtain ⟨rfl, rfl⟩ := he2
      obtain ⟨rfl, rfl⟩ := he3
      have e1' : wr.cell? ⟨g1, o1 + j, none⟩ = some (.int .u8 (dd j)) := by rw [hwr]; exact e1
      have e2' : wr.cell? ⟨g2, o2 + j, none⟩ = some (.string (ss j)) := by rw [hwr]; exact e2
      have e3' : wr.cell? ⟨g3, o3 + j, none⟩ = some (.bool (bb j)) := by rw [hwr]; exact e3
      clear e1 e2 e3 hwr f2 f3
      have i1 : (j : Int) < (n : Int) := by omega
      by_cases hw : wB (dd j) = true
      · by_cases hs : (ss j).toList = (ss i).toList
        · have ts : ((ss j).toList == (ss i).toList) = true := by simpa using hs
          by_cases hb : bb j = bb i
          · have tb : (bb j == bb i) = true := by simpa using hb
            have HM := hide (show mt dd ss bb (ss i) (bb i) j = true by simp [mt, hw, hs, hb])
            clear hs hb
            go_wp2_with fail
            go_quiet ((go_at_call 20; exact Calls.quiet_of_same (writes20c _ _ _ hw)))
            go_wp2_with fail
            go_ret
            exact ⟨by rw [show fwB dd ss bb i = false from by
              have h5 := cJ_mono dd ss bb (ss i) (bb i) (show j + 1 ≤ i by omega)
              rw [cJ_hit (unhide HM)] at h5
              simp [fwB]; omega]; rfl, q + nq, by rw [unhide HWR]; exact World.drewN_drewN ..⟩
          · have tb : (bb j == bb i) = false := by simpa using hb
            have HM := hide (show mt dd ss bb (ss i) (bb i) j = false by simp [mt, hb])
            clear hs hb
            go_wp2_with fail
            go_quiet ((go_at_call 20; exact Calls.quiet_of_same (writes20c _ _ _ hw)))
            go_wp2_with fail
            go_roundw
            case rel => exact ⟨j + 1, by omega, by go_num, by rw [cJ_miss (unhide HM)]; exact unhide HCJ, q + nq, by rw [unhide HWR]; exact World.drewN_drewN ..⟩
            case measure => simp [intOf]; omega
        · have ts : ((ss j).toList == (ss i).toList) = false := by simpa using hs
          have HM := hide (show mt dd ss bb (ss i) (bb i) j = false by simp [mt, hs])
          go_wp2_with fail
          go_quiet ((go_at_call 20; exact Calls.quiet_of_same (writes20c _ _ _ hw)))
          go_wp2_with fail
          go_roundw
          case rel => exact ⟨j + 1, by omega, by go_num, by rw [cJ_miss (unhide HM)]; exact unhide HCJ, q + nq, by rw [unhide HWR]; exact World.drewN_drewN ..⟩
          case measure => simp [intOf]; omega
      · have hw' : wB (dd j) = false := by simpa using hw
        have HM := hide (show mt dd ss bb (ss i) (bb i) j = false by simp [mt, hw'])
        clear hw
        go_wp2_with fail
        go_quiet ((go_at_call 20; exact Calls.quiet_of_same (writes20c _ _ _ hw')))
        go_wp2_with fail
        go_roundw
        case rel => exact ⟨j + 1, by omega, by go_num, by rw [cJ_miss (unhide HM)]; exact unhide HCJ, q + nq, by rw [unhide HWR]; exact World.drewN_drewN ..⟩
        case measure => simp [intOf]; omega
    · obtain rfl : i = j := by omega
      go_wp2
      go_ret
      exact ⟨by rw [show fwB dd ss bb i = true from by simp [fwB, unhide HCJ]]; rfl, _, rfl⟩

theorem zero3 (w : World) : (zeroValue 3).run Try.prog w = .ok (.int .i64 0) w := by kernel_rfl

/-- ZZWriterOf: what the map holds at a register. -/
theorem writerOf22 (D : DataW Unit) (B n : Nat) (v : ByteArray) (p : Bool) (c : Int) (h : Bool) (w : World) (hv : v.size ≤ maxLen) (hown : w.ownsMap Try.prog 54 (plainElem Try.prog 3) B n D)
    (hc : D.atKey (rk v p) (.lit (.int .i64 0)) = .lit (.int .i64 c)) (hh : Maps.has D (rk v p) = h) :
    Calls Try.prog 22 #[.map (some B), .string v, .bool p] w fun e w' => e = .returned (.tuple #[.int .i64 c, .bool h]) ∧ w' = w := by
  have HC := hide hc
  clear hc
  go_enter Try.func22, Try.ntmps22
  go_wp2_with (at_lookup; refine wpList_lookup_own_ok_int _ rfl _ _ 44 rfl 54 3 .i64 law54 Try.underlying44 Try.underlying3 (zero3 _) B n D rfl hown _ _ rfl (key54 v p hv) ?_; intro c' hat hwc; obtain rfl : c' = c := (by have := hat.symm.trans (unhide HC); simpa using this); clear hat hwc)
  go_ret2
  exact ⟨rfl, rfl⟩

end Go.Proofs.Qxb6601795a.Wr
