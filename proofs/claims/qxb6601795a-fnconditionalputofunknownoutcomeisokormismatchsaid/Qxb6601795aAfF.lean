/-
  FnConditionalPutOfUnknownOutcomeIsOKOrMismatch: the walk.
-/
import Derived.Test.Qxb6601795aAfB
import Derived.Test.Qxb6601795aAfE
namespace Go.Proofs.Qxb6601795a.Af
open Go.RowKit

/-- What the bound on total length says of two lengths. -/
def bytD (a b : Nat) : Bool := decide (a ≤ 1048576 ∧ b ≤ 1048576 ∧ a + b ≤ 1048576)

theorem bytes7 (kv v : ByteArray) (kp : Bool) (kn km iv : Int) (w : World) (h1 : kv.size ≤ maxLen) (h2 : v.size ≤ maxLen) :
    Calls Try.prog 7 #[.string kv, .bool kp, .int .u64 kn, .int .u64 km, .string v, .int .u64 iv] w fun e w' => e = .returned (.bool (bytD kv.size v.size)) ∧ w' = w := by
  unfold maxLen at h1 h2
  by_cases c1 : kv.size ≤ 1048576
  · by_cases c2 : v.size ≤ 1048576
    · by_cases c3 : kv.size + v.size ≤ 1048576
      · go_enter Try.func7, Try.ntmps7
        go_wp2
        go_ret
        exact ⟨by simp [bytD, c1, c2, c3], rfl⟩
      · go_enter Try.func7, Try.ntmps7
        go_wp2
        go_ret
        exact ⟨by simp [bytD, c1, c2]; omega, rfl⟩
    · go_enter Try.func7, Try.ntmps7
      go_wp2
      go_ret
      exact ⟨by simp [bytD]; omega, rfl⟩
  · go_enter Try.func7, Try.ntmps7
    go_wp2
    go_ret
    exact ⟨by simp [bytD]; omega, rfl⟩

theorem next_put (n : Int) : IntKind.u64.wrap (n + 1) = next n := rfl

/-- The two boxes in which the law lays the value and the version. -/
theorem boxes (w : World) (v : ByteArray) (iv : Int) :
    ((w.alloc (.cells #[.string v] 9)).alloc (.cells #[.int .u64 iv] 22)).cell? ⟨w.heap.size, 0, none⟩ = some (.string v) ∧
    ((w.alloc (.cells #[.string v] 9)).alloc (.cells #[.int .u64 iv] 22)).cell? ⟨w.heap.size + 1, 0, none⟩ = some (.int .u64 iv) ∧
    Below w.heap.size w ((w.alloc (.cells #[.string v] 9)).alloc (.cells #[.int .u64 iv] 22)) :=
  ⟨by simp [go_sem], by simp [go_sem], ((Below.refl _ _).alloc (Nat.le_refl _) _).alloc (by simp) _⟩

theorem cell_on {w w' : World} {a : Addr} {x : Value} (hb : Below w.heap.size w w') (h : w.cell? a = some x) : w'.cell? a = some x := (hb.cell (World.block_lt_of_cell? w a h)).trans h

set_option maxRecDepth 100000 in
set_option maxHeartbeats 4000000 in
theorem law3t (kv v : ByteArray) (kp : Bool) (kn km iv : Int) (w : World) (h1 : kv.size ≤ maxLen) (h2 : v.size ≤ maxLen) (c3 : kv.size + v.size ≤ 1048576) (tm : (kn == iv) = true) :
    Calls Try.prog 3 #[.string kv, .bool kp, .int .u64 kn, .int .u64 km, .string v, .int .u64 iv] w fun e w' => e = .returned (.bool true) ∧ Below w.heap.size w w' := by
  have hby : bytD kv.size v.size = true := by simp [bytD]; omega
  have nx := next_put kn
  obtain ⟨e0, f0, hb0⟩ := boxes w v iv
  have BL0 := hide hb0
  clear hb0
  go_enter Try.func3, Try.ntmps3
  go_wp2_with fail
  refine (bytes7 kv v kp kn km iv _ h1 h2).mono ?_
  rintro e wx ⟨rfl, hw⟩
  rw [hw]
  clear hw wx
  go_wp2_with fail
  refine (zactOk v iv _ _ _ e0 f0).mono ?_
  rintro e w1 ⟨rfl, hb1⟩
  have e1 := cell_on hb1 e0
  have f1 := cell_on hb1 f0
  have BL1 := hide ((unhide BL0).trans (hb1.mono (unhide BL0).size))
  clear hb1 BL0 e0 f0
  go_wp2_with fail
  refine (zactMis v iv _ _ _ e1 f1).mono ?_
  rintro e w2 ⟨rfl, hb2⟩
  have e2 := cell_on hb2 e1
  have f2 := cell_on hb2 f1
  have BL2 := hide ((unhide BL1).trans (hb2.mono (unhide BL1).size))
  clear hb2 BL1 e1 f1
  go_wp2_with fail
  refine (zactUnk v iv _ _ _ e2 f2).mono ?_
  rintro e w3 ⟨rfl, hb3⟩
  have e3 := cell_on hb3 e2
  have f3 := cell_on hb3 f2
  have BL3 := hide ((unhide BL2).trans (hb3.mono (unhide BL2).size))
  clear hb3 BL2 e2 f2
  clear e3 f3
  go_wp2_with fail
  refine (z3 kv v kp true kn km iv _).mono ?_
  rintro e w4 ⟨rfl, hb4⟩
  have BL4 := hide ((unhide BL3).trans (hb4.mono (unhide BL3).size))
  clear hb4 BL3
  go_wp2_with fail
  refine (z5 kv ⟨#[]⟩ kp false kn km iv _).mono ?_
  rintro e w5 ⟨rfl, hb5⟩
  have BL5 := hide ((unhide BL4).trans (hb5.mono (unhide BL4).size))
  clear hb5 BL4
  go_wp2_with fail
  refine (z4t kv v kp true kn km iv tm _).mono ?_
  rintro e w6 ⟨rfl, hb6⟩
  have BL6 := hide ((unhide BL5).trans (hb6.mono (unhide BL5).size))
  clear hb6 BL5
  go_wp2_with fail
  refine (same10 _ _ _ _ _ _ _ _ _ _ rfl rfl rfl rfl rfl _).mono ?_
  rintro e wx ⟨rfl, hw⟩
  rw [hw]
  clear hw wx
  go_wp2_with fail
  refine (same10 _ _ _ _ _ _ _ _ _ _ rfl rfl rfl rfl rfl _).mono ?_
  rintro e wx ⟨rfl, hw⟩
  rw [hw]
  clear hw wx
  go_wp2_with fail
  refine (same10 _ _ _ _ _ _ _ _ _ _ rfl rfl rfl rfl rfl _).mono ?_
  rintro e wx ⟨rfl, hw⟩
  rw [hw]
  clear hw wx
  go_wp2_with fail
  go_ret
  exact ⟨rfl, unhide BL6⟩

set_option maxRecDepth 100000 in
set_option maxHeartbeats 4000000 in
theorem law3f (kv v : ByteArray) (kp : Bool) (kn km iv : Int) (w : World) (h1 : kv.size ≤ maxLen) (h2 : v.size ≤ maxLen) (c3 : kv.size + v.size ≤ 1048576) (tm : (kn == iv) = false) :
    Calls Try.prog 3 #[.string kv, .bool kp, .int .u64 kn, .int .u64 km, .string v, .int .u64 iv] w fun e w' => e = .returned (.bool true) ∧ Below w.heap.size w w' := by
  have hby : bytD kv.size v.size = true := by simp [bytD]; omega
  have nx := next_put kn
  obtain ⟨e0, f0, hb0⟩ := boxes w v iv
  have BL0 := hide hb0
  clear hb0
  go_enter Try.func3, Try.ntmps3
  go_wp2_with fail
  refine (bytes7 kv v kp kn km iv _ h1 h2).mono ?_
  rintro e wx ⟨rfl, hw⟩
  rw [hw]
  clear hw wx
  go_wp2_with fail
  refine (zactOk v iv _ _ _ e0 f0).mono ?_
  rintro e w1 ⟨rfl, hb1⟩
  have e1 := cell_on hb1 e0
  have f1 := cell_on hb1 f0
  have BL1 := hide ((unhide BL0).trans (hb1.mono (unhide BL0).size))
  clear hb1 BL0 e0 f0
  go_wp2_with fail
  refine (zactMis v iv _ _ _ e1 f1).mono ?_
  rintro e w2 ⟨rfl, hb2⟩
  have e2 := cell_on hb2 e1
  have f2 := cell_on hb2 f1
  have BL2 := hide ((unhide BL1).trans (hb2.mono (unhide BL1).size))
  clear hb2 BL1 e1 f1
  go_wp2_with fail
  refine (zactUnk v iv _ _ _ e2 f2).mono ?_
  rintro e w3 ⟨rfl, hb3⟩
  have e3 := cell_on hb3 e2
  have f3 := cell_on hb3 f2
  have BL3 := hide ((unhide BL2).trans (hb3.mono (unhide BL2).size))
  clear hb3 BL2 e2 f2
  clear e3 f3
  go_wp2_with fail
  refine (z3 kv v kp true kn km iv _).mono ?_
  rintro e w4 ⟨rfl, hb4⟩
  have BL4 := hide ((unhide BL3).trans (hb4.mono (unhide BL3).size))
  clear hb4 BL3
  go_wp2_with fail
  refine (z5 kv ⟨#[]⟩ kp false kn km iv _).mono ?_
  rintro e w5 ⟨rfl, hb5⟩
  have BL5 := hide ((unhide BL4).trans (hb5.mono (unhide BL4).size))
  clear hb5 BL4
  go_wp2_with fail
  refine (z4f kv v kp true kn km iv tm _).mono ?_
  rintro e w6 ⟨rfl, hb6⟩
  have BL6 := hide ((unhide BL5).trans (hb6.mono (unhide BL5).size))
  clear hb6 BL5
  go_wp2_with fail
  refine (same10 _ _ _ _ _ _ _ _ _ _ rfl rfl rfl rfl rfl _).mono ?_
  rintro e wx ⟨rfl, hw⟩
  rw [hw]
  clear hw wx
  go_wp2_with fail
  refine (same10 _ _ _ _ _ _ _ _ _ _ rfl rfl rfl rfl rfl _).mono ?_
  rintro e wx ⟨rfl, hw⟩
  rw [hw]
  clear hw wx
  go_wp2_with fail
  go_ret
  exact ⟨rfl, unhide BL6⟩

set_option maxRecDepth 100000 in
theorem law3 (kv v : ByteArray) (kp : Bool) (kn km iv : Int) (w : World) (h1 : kv.size ≤ maxLen) (h2 : v.size ≤ maxLen) :
    Calls Try.prog 3 #[.string kv, .bool kp, .int .u64 kn, .int .u64 km, .string v, .int .u64 iv] w fun e w' => e = .returned (.bool true) ∧ Below w.heap.size w w' := by
  by_cases hby : bytD kv.size v.size = true
  · have c3 : kv.size + v.size ≤ 1048576 := by simp [bytD] at hby; omega
    by_cases e3 : kn = iv
    · exact law3t kv v kp kn km iv w h1 h2 c3 (by simp [e3])
    · exact law3f kv v kp kn km iv w h1 h2 c3 (by simp [e3])
  · have hbf : bytD kv.size v.size = false := by simpa using hby
    clear hby
    go_enter Try.func3, Try.ntmps3
    go_wp2_with fail
    refine (bytes7 kv v kp kn km iv _ h1 h2).mono ?_
    rintro e wx ⟨rfl, hw⟩
    rw [hw]
    clear hw wx
    go_wp2_with fail
    go_ret
    exact ⟨rfl, Below.refl _ _⟩


end Go.Proofs.Qxb6601795a.Af
