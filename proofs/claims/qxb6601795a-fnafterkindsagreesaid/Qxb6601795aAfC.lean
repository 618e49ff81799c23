/-
  FnAfterKindsAgree: the walk.
-/
import Derived.Test.Qxb6601795aAfB
namespace Go.Proofs.Qxb6601795a.Af
open Go.RowKit

/-- What the bound on total length says of two lengths. -/
def bytB (a b : Nat) : Bool := decide (a ≤ 1048576 ∧ b ≤ 1048576 ∧ a + b ≤ 1048576)

theorem bytes11 (kv av : ByteArray) (kp ap : Bool) (kn km an d : Int) (w : World) (h1 : kv.size ≤ maxLen) (h2 : av.size ≤ maxLen) :
    Calls Try.prog 11 #[.string kv, .bool kp, .int .u64 kn, .int .u64 km, .int .u8 d, .string av, .bool ap, .int .u64 an] w fun e w' => e = .returned (.bool (bytB kv.size av.size)) ∧ w' = w := by
  unfold maxLen at h1 h2
  by_cases c1 : kv.size ≤ 1048576
  · by_cases c2 : av.size ≤ 1048576
    · by_cases c3 : kv.size + av.size ≤ 1048576
      · go_enter Try.func11, Try.ntmps11
        go_wp2
        go_ret
        exact ⟨by simp [bytB, c1, c2, c3], rfl⟩
      · go_enter Try.func11, Try.ntmps11
        go_wp2
        go_ret
        exact ⟨by simp [bytB, c1, c2]; omega, rfl⟩
    · go_enter Try.func11, Try.ntmps11
      go_wp2
      go_ret
      exact ⟨by simp [bytB]; omega, rfl⟩
  · go_enter Try.func11, Try.ntmps11
    go_wp2
    go_ret
    exact ⟨by simp [bytB]; omega, rfl⟩

theorem next_eq (n : Int) : IntKind.u64.wrap (n + 1) = next n := rfl

set_option maxRecDepth 100000 in
set_option maxHeartbeats 4000000 in
theorem law4att (kv av : ByteArray) (kp ap : Bool) (kn km an d : Int) (w : World) (h1 : kv.size ≤ maxLen) (h2 : av.size ≤ maxLen) (hd0 : 0 ≤ d) (c3 : kv.size + av.size ≤ 1048576)
    (t1 : (kv.toList == av.toList) = true) (t2 : (kp == ap) = true) (hsb : smB kv kp av ap = true) (tm : (kn == an) = true) :
    Calls Try.prog 4 #[.string kv, .bool kp, .int .u64 kn, .int .u64 km, .int .u8 d, .string av, .bool ap, .int .u64 an] w fun e w' => e = .returned (.bool true) ∧ Below w.heap.size w w' := by
  have hby : bytB kv.size av.size = true := by simp [bytB]; omega
  have BL0 := hide (Below.refl w.heap.size w)
  have nx := next_eq kn
  go_enter Try.func4, Try.ntmps4
  go_wp2_with fail
  refine (bytes11 kv av kp ap kn km an d _ h1 h2).mono ?_
  rintro e wx ⟨rfl, hw⟩
  rw [hw]
  clear hw wx
  go_wp2_with fail
  refine (z0 kv av kp ap kn km an _).mono ?_
  rintro e w1 ⟨rfl, hb1⟩
  have BL1 := hide ((unhide BL0).trans (hb1.mono (unhide BL0).size))
  clear hb1 BL0
  go_wp2_with fail
  refine (same10 _ _ _ _ _ _ _ _ _ _ rfl rfl rfl rfl rfl _).mono ?_
  rintro e wx ⟨rfl, hw⟩
  rw [hw]
  clear hw wx
  go_wp2_with fail
  refine (z1 kv av kp ap kn km an _).mono ?_
  rintro e w2 ⟨rfl, hb2⟩
  have BL2 := hide ((unhide BL1).trans (hb2.mono (unhide BL1).size))
  clear hb2 BL1
  go_wp2_with fail
  refine (same10 _ _ _ _ _ _ _ _ _ _ rfl rfl rfl rfl rfl _).mono ?_
  rintro e wx ⟨rfl, hw⟩
  rw [hw]
  clear hw wx
  go_wp2_with fail
  refine (z2 kv av kp ap kn km an _).mono ?_
  rintro e w3 ⟨rfl, hb3⟩
  have BL3 := hide ((unhide BL2).trans (hb3.mono (unhide BL2).size))
  clear hb3 BL2
  go_wp2_with fail
  refine (same10 _ _ _ _ _ _ _ _ _ _ rfl rfl rfl rfl rfl _).mono ?_
  rintro e wx ⟨rfl, hw⟩
  rw [hw]
  clear hw wx
  go_wp2_with fail
  refine (z6 kv av kp ap kn km an _).mono ?_
  rintro e w4 ⟨rfl, hb4⟩
  have BL4 := hide ((unhide BL3).trans (hb4.mono (unhide BL3).size))
  clear hb4 BL3
  go_wp2_with fail
  refine (same10 _ _ _ _ _ _ _ _ _ _ rfl rfl rfl rfl rfl _).mono ?_
  rintro e wx ⟨rfl, hw⟩
  rw [hw]
  clear hw wx
  go_wp2_with fail
  refine (z3 kv av kp ap kn km an _).mono ?_
  rintro e w5 ⟨rfl, hb5⟩
  have BL5 := hide ((unhide BL4).trans (hb5.mono (unhide BL4).size))
  clear hb5 BL4
  go_wp2_with fail
  refine (same10 _ _ _ _ _ _ _ _ _ _ rfl rfl rfl rfl rfl _).mono ?_
  rintro e wx ⟨rfl, hw⟩
  rw [hw]
  clear hw wx
  go_wp2_with fail
  refine (z5 kv av kp ap kn km an _).mono ?_
  rintro e w6 ⟨rfl, hb6⟩
  have BL6 := hide ((unhide BL5).trans (hb6.mono (unhide BL5).size))
  clear hb6 BL5
  go_wp2_with fail
  refine (same10 _ _ _ _ _ _ _ _ _ _ rfl rfl rfl rfl rfl _).mono ?_
  rintro e wx ⟨rfl, hw⟩
  rw [hw]
  clear hw wx
  go_wp2_with fail
  refine (z4t kv av kp ap kn km an tm _).mono ?_
  rintro e w7 ⟨rfl, hb7⟩
  have BL7 := hide ((unhide BL6).trans (hb7.mono (unhide BL6).size))
  clear hb7 BL6
  go_wp2_with fail
  refine (same10 _ _ _ _ _ _ _ _ _ _ rfl rfl rfl rfl rfl _).mono ?_
  rintro e wx ⟨rfl, hw⟩
  rw [hw]
  clear hw wx
  go_wp2_with fail
  rcases (show d = 0 ∨ d = 1 ∨ d = 2 ∨ d = 3 ∨ d = 4 ∨ d = 5 ∨ d = 6 ∨ 6 < d by omega) with rfl | rfl | rfl | rfl | rfl | rfl | rfl | hd7
  · refine (z0 kv av kp ap kn km an _).mono ?_
    rintro e w8 ⟨rfl, hb8⟩
    have BL8 := hide ((unhide BL7).trans (hb8.mono (unhide BL7).size))
    clear hb8 BL7
    go_wp2_with fail
    refine (same10 _ _ _ _ _ _ _ _ _ _ rfl rfl rfl rfl rfl _).mono ?_
    rintro e wx ⟨rfl, hw⟩
    rw [hw]
    clear hw wx
    go_wp2_with fail
    go_ret
    exact ⟨rfl, unhide BL8⟩
  · refine (z1 kv av kp ap kn km an _).mono ?_
    rintro e w8 ⟨rfl, hb8⟩
    have BL8 := hide ((unhide BL7).trans (hb8.mono (unhide BL7).size))
    clear hb8 BL7
    go_wp2_with fail
    refine (same10 _ _ _ _ _ _ _ _ _ _ rfl rfl rfl rfl rfl _).mono ?_
    rintro e wx ⟨rfl, hw⟩
    rw [hw]
    clear hw wx
    go_wp2_with fail
    go_ret
    exact ⟨rfl, unhide BL8⟩
  · refine (z2 kv av kp ap kn km an _).mono ?_
    rintro e w8 ⟨rfl, hb8⟩
    have BL8 := hide ((unhide BL7).trans (hb8.mono (unhide BL7).size))
    clear hb8 BL7
    go_wp2_with fail
    refine (same10 _ _ _ _ _ _ _ _ _ _ rfl rfl rfl rfl rfl _).mono ?_
    rintro e wx ⟨rfl, hw⟩
    rw [hw]
    clear hw wx
    go_wp2_with fail
    go_ret
    exact ⟨rfl, unhide BL8⟩
  · refine (z3 kv av kp ap kn km an _).mono ?_
    rintro e w8 ⟨rfl, hb8⟩
    have BL8 := hide ((unhide BL7).trans (hb8.mono (unhide BL7).size))
    clear hb8 BL7
    go_wp2_with fail
    refine (same10 _ _ _ _ _ _ _ _ _ _ rfl rfl rfl rfl rfl _).mono ?_
    rintro e wx ⟨rfl, hw⟩
    rw [hw]
    clear hw wx
    go_wp2_with fail
    go_ret
    exact ⟨rfl, unhide BL8⟩
  · refine (z4t kv av kp ap kn km an tm _).mono ?_
    rintro e w8 ⟨rfl, hb8⟩
    have BL8 := hide ((unhide BL7).trans (hb8.mono (unhide BL7).size))
    clear hb8 BL7
    go_wp2_with fail
    refine (same10 _ _ _ _ _ _ _ _ _ _ rfl rfl rfl rfl rfl _).mono ?_
    rintro e wx ⟨rfl, hw⟩
    rw [hw]
    clear hw wx
    go_wp2_with fail
    go_ret
    exact ⟨rfl, unhide BL8⟩
  · refine (z5 kv av kp ap kn km an _).mono ?_
    rintro e w8 ⟨rfl, hb8⟩
    have BL8 := hide ((unhide BL7).trans (hb8.mono (unhide BL7).size))
    clear hb8 BL7
    go_wp2_with fail
    refine (same10 _ _ _ _ _ _ _ _ _ _ rfl rfl rfl rfl rfl _).mono ?_
    rintro e wx ⟨rfl, hw⟩
    rw [hw]
    clear hw wx
    go_wp2_with fail
    go_ret
    exact ⟨rfl, unhide BL8⟩
  · refine (z6 kv av kp ap kn km an _).mono ?_
    rintro e w8 ⟨rfl, hb8⟩
    have BL8 := hide ((unhide BL7).trans (hb8.mono (unhide BL7).size))
    clear hb8 BL7
    go_wp2_with fail
    refine (same10 _ _ _ _ _ _ _ _ _ _ rfl rfl rfl rfl rfl _).mono ?_
    rintro e wx ⟨rfl, hw⟩
    rw [hw]
    clear hw wx
    go_wp2_with fail
    go_ret
    exact ⟨rfl, unhide BL8⟩
  · refine (z7 kv av kp ap kn km an d hd7 _).mono ?_
    rintro e w8 ⟨rfl, hb8⟩
    have BL8 := hide ((unhide BL7).trans (hb8.mono (unhide BL7).size))
    clear hb8 BL7
    go_wp2_with fail
    refine (same10 _ _ _ _ _ _ _ _ _ _ rfl rfl rfl rfl rfl _).mono ?_
    rintro e wx ⟨rfl, hw⟩
    rw [hw]
    clear hw wx
    go_wp2_with fail
    go_ret
    exact ⟨rfl, unhide BL8⟩

set_option maxRecDepth 100000 in
set_option maxHeartbeats 4000000 in
theorem law4atf (kv av : ByteArray) (kp ap : Bool) (kn km an d : Int) (w : World) (h1 : kv.size ≤ maxLen) (h2 : av.size ≤ maxLen) (hd0 : 0 ≤ d) (c3 : kv.size + av.size ≤ 1048576)
    (t1 : (kv.toList == av.toList) = true) (t2 : (kp == ap) = true) (hsb : smB kv kp av ap = true) (tm : (kn == an) = false) :
    Calls Try.prog 4 #[.string kv, .bool kp, .int .u64 kn, .int .u64 km, .int .u8 d, .string av, .bool ap, .int .u64 an] w fun e w' => e = .returned (.bool true) ∧ Below w.heap.size w w' := by
  have hby : bytB kv.size av.size = true := by simp [bytB]; omega
  have BL0 := hide (Below.refl w.heap.size w)
  have nx := next_eq kn
  go_enter Try.func4, Try.ntmps4
  go_wp2_with fail
  refine (bytes11 kv av kp ap kn km an d _ h1 h2).mono ?_
  rintro e wx ⟨rfl, hw⟩
  rw [hw]
  clear hw wx
  go_wp2_with fail
  refine (z0 kv av kp ap kn km an _).mono ?_
  rintro e w1 ⟨rfl, hb1⟩
  have BL1 := hide ((unhide BL0).trans (hb1.mono (unhide BL0).size))
  clear hb1 BL0
  go_wp2_with fail
  refine (same10 _ _ _ _ _ _ _ _ _ _ rfl rfl rfl rfl rfl _).mono ?_
  rintro e wx ⟨rfl, hw⟩
  rw [hw]
  clear hw wx
  go_wp2_with fail
  refine (z1 kv av kp ap kn km an _).mono ?_
  rintro e w2 ⟨rfl, hb2⟩
  have BL2 := hide ((unhide BL1).trans (hb2.mono (unhide BL1).size))
  clear hb2 BL1
  go_wp2_with fail
  refine (same10 _ _ _ _ _ _ _ _ _ _ rfl rfl rfl rfl rfl _).mono ?_
  rintro e wx ⟨rfl, hw⟩
  rw [hw]
  clear hw wx
  go_wp2_with fail
  refine (z2 kv av kp ap kn km an _).mono ?_
  rintro e w3 ⟨rfl, hb3⟩
  have BL3 := hide ((unhide BL2).trans (hb3.mono (unhide BL2).size))
  clear hb3 BL2
  go_wp2_with fail
  refine (same10 _ _ _ _ _ _ _ _ _ _ rfl rfl rfl rfl rfl _).mono ?_
  rintro e wx ⟨rfl, hw⟩
  rw [hw]
  clear hw wx
  go_wp2_with fail
  refine (z6 kv av kp ap kn km an _).mono ?_
  rintro e w4 ⟨rfl, hb4⟩
  have BL4 := hide ((unhide BL3).trans (hb4.mono (unhide BL3).size))
  clear hb4 BL3
  go_wp2_with fail
  refine (same10 _ _ _ _ _ _ _ _ _ _ rfl rfl rfl rfl rfl _).mono ?_
  rintro e wx ⟨rfl, hw⟩
  rw [hw]
  clear hw wx
  go_wp2_with fail
  refine (z3 kv av kp ap kn km an _).mono ?_
  rintro e w5 ⟨rfl, hb5⟩
  have BL5 := hide ((unhide BL4).trans (hb5.mono (unhide BL4).size))
  clear hb5 BL4
  go_wp2_with fail
  refine (same10 _ _ _ _ _ _ _ _ _ _ rfl rfl rfl rfl rfl _).mono ?_
  rintro e wx ⟨rfl, hw⟩
  rw [hw]
  clear hw wx
  go_wp2_with fail
  refine (z5 kv av kp ap kn km an _).mono ?_
  rintro e w6 ⟨rfl, hb6⟩
  have BL6 := hide ((unhide BL5).trans (hb6.mono (unhide BL5).size))
  clear hb6 BL5
  go_wp2_with fail
  refine (same10 _ _ _ _ _ _ _ _ _ _ rfl rfl rfl rfl rfl _).mono ?_
  rintro e wx ⟨rfl, hw⟩
  rw [hw]
  clear hw wx
  go_wp2_with fail
  refine (z4f kv av kp ap kn km an tm _).mono ?_
  rintro e w7 ⟨rfl, hb7⟩
  have BL7 := hide ((unhide BL6).trans (hb7.mono (unhide BL6).size))
  clear hb7 BL6
  go_wp2_with fail
  refine (same10 _ _ _ _ _ _ _ _ _ _ rfl rfl rfl rfl rfl _).mono ?_
  rintro e wx ⟨rfl, hw⟩
  rw [hw]
  clear hw wx
  go_wp2_with fail
  rcases (show d = 0 ∨ d = 1 ∨ d = 2 ∨ d = 3 ∨ d = 4 ∨ d = 5 ∨ d = 6 ∨ 6 < d by omega) with rfl | rfl | rfl | rfl | rfl | rfl | rfl | hd7
  · refine (z0 kv av kp ap kn km an _).mono ?_
    rintro e w8 ⟨rfl, hb8⟩
    have BL8 := hide ((unhide BL7).trans (hb8.mono (unhide BL7).size))
    clear hb8 BL7
    go_wp2_with fail
    refine (same10 _ _ _ _ _ _ _ _ _ _ rfl rfl rfl rfl rfl _).mono ?_
    rintro e wx ⟨rfl, hw⟩
    rw [hw]
    clear hw wx
    go_wp2_with fail
    go_ret
    exact ⟨rfl, unhide BL8⟩
  · refine (z1 kv av kp ap kn km an _).mono ?_
    rintro e w8 ⟨rfl, hb8⟩
    have BL8 := hide ((unhide BL7).trans (hb8.mono (unhide BL7).size))
    clear hb8 BL7
    go_wp2_with fail
    refine (same10 _ _ _ _ _ _ _ _ _ _ rfl rfl rfl rfl rfl _).mono ?_
    rintro e wx ⟨rfl, hw⟩
    rw [hw]
    clear hw wx
    go_wp2_with fail
    go_ret
    exact ⟨rfl, unhide BL8⟩
  · refine (z2 kv av kp ap kn km an _).mono ?_
    rintro e w8 ⟨rfl, hb8⟩
    have BL8 := hide ((unhide BL7).trans (hb8.mono (unhide BL7).size))
    clear hb8 BL7
    go_wp2_with fail
    refine (same10 _ _ _ _ _ _ _ _ _ _ rfl rfl rfl rfl rfl _).mono ?_
    rintro e wx ⟨rfl, hw⟩
    rw [hw]
    clear hw wx
    go_wp2_with fail
    go_ret
    exact ⟨rfl, unhide BL8⟩
  · refine (z3 kv av kp ap kn km an _).mono ?_
    rintro e w8 ⟨rfl, hb8⟩
    have BL8 := hide ((unhide BL7).trans (hb8.mono (unhide BL7).size))
    clear hb8 BL7
    go_wp2_with fail
    refine (same10 _ _ _ _ _ _ _ _ _ _ rfl rfl rfl rfl rfl _).mono ?_
    rintro e wx ⟨rfl, hw⟩
    rw [hw]
    clear hw wx
    go_wp2_with fail
    go_ret
    exact ⟨rfl, unhide BL8⟩
  · refine (z4f kv av kp ap kn km an tm _).mono ?_
    rintro e w8 ⟨rfl, hb8⟩
    have BL8 := hide ((unhide BL7).trans (hb8.mono (unhide BL7).size))
    clear hb8 BL7
    go_wp2_with fail
    refine (same10 _ _ _ _ _ _ _ _ _ _ rfl rfl rfl rfl rfl _).mono ?_
    rintro e wx ⟨rfl, hw⟩
    rw [hw]
    clear hw wx
    go_wp2_with fail
    go_ret
    exact ⟨rfl, unhide BL8⟩
  · refine (z5 kv av kp ap kn km an _).mono ?_
    rintro e w8 ⟨rfl, hb8⟩
    have BL8 := hide ((unhide BL7).trans (hb8.mono (unhide BL7).size))
    clear hb8 BL7
    go_wp2_with fail
    refine (same10 _ _ _ _ _ _ _ _ _ _ rfl rfl rfl rfl rfl _).mono ?_
    rintro e wx ⟨rfl, hw⟩
    rw [hw]
    clear hw wx
    go_wp2_with fail
    go_ret
    exact ⟨rfl, unhide BL8⟩
  · refine (z6 kv av kp ap kn km an _).mono ?_
    rintro e w8 ⟨rfl, hb8⟩
    have BL8 := hide ((unhide BL7).trans (hb8.mono (unhide BL7).size))
    clear hb8 BL7
    go_wp2_with fail
    refine (same10 _ _ _ _ _ _ _ _ _ _ rfl rfl rfl rfl rfl _).mono ?_
    rintro e wx ⟨rfl, hw⟩
    rw [hw]
    clear hw wx
    go_wp2_with fail
    go_ret
    exact ⟨rfl, unhide BL8⟩
  · refine (z7 kv av kp ap kn km an d hd7 _).mono ?_
    rintro e w8 ⟨rfl, hb8⟩
    have BL8 := hide ((unhide BL7).trans (hb8.mono (unhide BL7).size))
    clear hb8 BL7
    go_wp2_with fail
    refine (same10 _ _ _ _ _ _ _ _ _ _ rfl rfl rfl rfl rfl _).mono ?_
    rintro e wx ⟨rfl, hw⟩
    rw [hw]
    clear hw wx
    go_wp2_with fail
    go_ret
    exact ⟨rfl, unhide BL8⟩

set_option maxRecDepth 100000 in
set_option maxHeartbeats 4000000 in
theorem law4bt (kv av : ByteArray) (kp ap : Bool) (kn km an d : Int) (w : World) (h1 : kv.size ≤ maxLen) (h2 : av.size ≤ maxLen) (hd0 : 0 ≤ d) (c3 : kv.size + av.size ≤ 1048576)
    (t1 : (kv.toList == av.toList) = true) (t2 : (kp == ap) = false) (hsb : smB kv kp av ap = false) (tm : (kn == an) = true) :
    Calls Try.prog 4 #[.string kv, .bool kp, .int .u64 kn, .int .u64 km, .int .u8 d, .string av, .bool ap, .int .u64 an] w fun e w' => e = .returned (.bool true) ∧ Below w.heap.size w w' := by
  have hby : bytB kv.size av.size = true := by simp [bytB]; omega
  have BL0 := hide (Below.refl w.heap.size w)
  have nx := next_eq kn
  go_enter Try.func4, Try.ntmps4
  go_wp2_with fail
  refine (bytes11 kv av kp ap kn km an d _ h1 h2).mono ?_
  rintro e wx ⟨rfl, hw⟩
  rw [hw]
  clear hw wx
  go_wp2_with fail
  refine (z0 kv av kp ap kn km an _).mono ?_
  rintro e w1 ⟨rfl, hb1⟩
  have BL1 := hide ((unhide BL0).trans (hb1.mono (unhide BL0).size))
  clear hb1 BL0
  go_wp2_with fail
  refine (same10 _ _ _ _ _ _ _ _ _ _ rfl rfl rfl rfl rfl _).mono ?_
  rintro e wx ⟨rfl, hw⟩
  rw [hw]
  clear hw wx
  go_wp2_with fail
  refine (z1 kv av kp ap kn km an _).mono ?_
  rintro e w2 ⟨rfl, hb2⟩
  have BL2 := hide ((unhide BL1).trans (hb2.mono (unhide BL1).size))
  clear hb2 BL1
  go_wp2_with fail
  refine (same10 _ _ _ _ _ _ _ _ _ _ rfl rfl rfl rfl rfl _).mono ?_
  rintro e wx ⟨rfl, hw⟩
  rw [hw]
  clear hw wx
  go_wp2_with fail
  refine (z2 kv av kp ap kn km an _).mono ?_
  rintro e w3 ⟨rfl, hb3⟩
  have BL3 := hide ((unhide BL2).trans (hb3.mono (unhide BL2).size))
  clear hb3 BL2
  go_wp2_with fail
  refine (same10 _ _ _ _ _ _ _ _ _ _ rfl rfl rfl rfl rfl _).mono ?_
  rintro e wx ⟨rfl, hw⟩
  rw [hw]
  clear hw wx
  go_wp2_with fail
  refine (z6 kv av kp ap kn km an _).mono ?_
  rintro e w4 ⟨rfl, hb4⟩
  have BL4 := hide ((unhide BL3).trans (hb4.mono (unhide BL3).size))
  clear hb4 BL3
  go_wp2_with fail
  refine (same10 _ _ _ _ _ _ _ _ _ _ rfl rfl rfl rfl rfl _).mono ?_
  rintro e wx ⟨rfl, hw⟩
  rw [hw]
  clear hw wx
  go_wp2_with fail
  refine (z3 kv av kp ap kn km an _).mono ?_
  rintro e w5 ⟨rfl, hb5⟩
  have BL5 := hide ((unhide BL4).trans (hb5.mono (unhide BL4).size))
  clear hb5 BL4
  go_wp2_with fail
  refine (same10 _ _ _ _ _ _ _ _ _ _ rfl rfl rfl rfl rfl _).mono ?_
  rintro e wx ⟨rfl, hw⟩
  rw [hw]
  clear hw wx
  go_wp2_with fail
  refine (z5 kv av kp ap kn km an _).mono ?_
  rintro e w6 ⟨rfl, hb6⟩
  have BL6 := hide ((unhide BL5).trans (hb6.mono (unhide BL5).size))
  clear hb6 BL5
  go_wp2_with fail
  refine (same10 _ _ _ _ _ _ _ _ _ _ rfl rfl rfl rfl rfl _).mono ?_
  rintro e wx ⟨rfl, hw⟩
  rw [hw]
  clear hw wx
  go_wp2_with fail
  refine (z4t kv av kp ap kn km an tm _).mono ?_
  rintro e w7 ⟨rfl, hb7⟩
  have BL7 := hide ((unhide BL6).trans (hb7.mono (unhide BL6).size))
  clear hb7 BL6
  go_wp2_with fail
  refine (same10 _ _ _ _ _ _ _ _ _ _ rfl rfl rfl rfl rfl _).mono ?_
  rintro e wx ⟨rfl, hw⟩
  rw [hw]
  clear hw wx
  go_wp2_with fail
  rcases (show d = 0 ∨ d = 1 ∨ d = 2 ∨ d = 3 ∨ d = 4 ∨ d = 5 ∨ d = 6 ∨ 6 < d by omega) with rfl | rfl | rfl | rfl | rfl | rfl | rfl | hd7
  · refine (z0 kv av kp ap kn km an _).mono ?_
    rintro e w8 ⟨rfl, hb8⟩
    have BL8 := hide ((unhide BL7).trans (hb8.mono (unhide BL7).size))
    clear hb8 BL7
    go_wp2_with fail
    refine (same10 _ _ _ _ _ _ _ _ _ _ rfl rfl rfl rfl rfl _).mono ?_
    rintro e wx ⟨rfl, hw⟩
    rw [hw]
    clear hw wx
    go_wp2_with fail
    go_ret
    exact ⟨rfl, unhide BL8⟩
  · refine (z1 kv av kp ap kn km an _).mono ?_
    rintro e w8 ⟨rfl, hb8⟩
    have BL8 := hide ((unhide BL7).trans (hb8.mono (unhide BL7).size))
    clear hb8 BL7
    go_wp2_with fail
    refine (same10 _ _ _ _ _ _ _ _ _ _ rfl rfl rfl rfl rfl _).mono ?_
    rintro e wx ⟨rfl, hw⟩
    rw [hw]
    clear hw wx
    go_wp2_with fail
    go_ret
    exact ⟨rfl, unhide BL8⟩
  · refine (z2 kv av kp ap kn km an _).mono ?_
    rintro e w8 ⟨rfl, hb8⟩
    have BL8 := hide ((unhide BL7).trans (hb8.mono (unhide BL7).size))
    clear hb8 BL7
    go_wp2_with fail
    refine (same10 _ _ _ _ _ _ _ _ _ _ rfl rfl rfl rfl rfl _).mono ?_
    rintro e wx ⟨rfl, hw⟩
    rw [hw]
    clear hw wx
    go_wp2_with fail
    go_ret
    exact ⟨rfl, unhide BL8⟩
  · refine (z3 kv av kp ap kn km an _).mono ?_
    rintro e w8 ⟨rfl, hb8⟩
    have BL8 := hide ((unhide BL7).trans (hb8.mono (unhide BL7).size))
    clear hb8 BL7
    go_wp2_with fail
    refine (same10 _ _ _ _ _ _ _ _ _ _ rfl rfl rfl rfl rfl _).mono ?_
    rintro e wx ⟨rfl, hw⟩
    rw [hw]
    clear hw wx
    go_wp2_with fail
    go_ret
    exact ⟨rfl, unhide BL8⟩
  · refine (z4t kv av kp ap kn km an tm _).mono ?_
    rintro e w8 ⟨rfl, hb8⟩
    have BL8 := hide ((unhide BL7).trans (hb8.mono (unhide BL7).size))
    clear hb8 BL7
    go_wp2_with fail
    refine (same10 _ _ _ _ _ _ _ _ _ _ rfl rfl rfl rfl rfl _).mono ?_
    rintro e wx ⟨rfl, hw⟩
    rw [hw]
    clear hw wx
    go_wp2_with fail
    go_ret
    exact ⟨rfl, unhide BL8⟩
  · refine (z5 kv av kp ap kn km an _).mono ?_
    rintro e w8 ⟨rfl, hb8⟩
    have BL8 := hide ((unhide BL7).trans (hb8.mono (unhide BL7).size))
    clear hb8 BL7
    go_wp2_with fail
    refine (same10 _ _ _ _ _ _ _ _ _ _ rfl rfl rfl rfl rfl _).mono ?_
    rintro e wx ⟨rfl, hw⟩
    rw [hw]
    clear hw wx
    go_wp2_with fail
    go_ret
    exact ⟨rfl, unhide BL8⟩
  · refine (z6 kv av kp ap kn km an _).mono ?_
    rintro e w8 ⟨rfl, hb8⟩
    have BL8 := hide ((unhide BL7).trans (hb8.mono (unhide BL7).size))
    clear hb8 BL7
    go_wp2_with fail
    refine (same10 _ _ _ _ _ _ _ _ _ _ rfl rfl rfl rfl rfl _).mono ?_
    rintro e wx ⟨rfl, hw⟩
    rw [hw]
    clear hw wx
    go_wp2_with fail
    go_ret
    exact ⟨rfl, unhide BL8⟩
  · refine (z7 kv av kp ap kn km an d hd7 _).mono ?_
    rintro e w8 ⟨rfl, hb8⟩
    have BL8 := hide ((unhide BL7).trans (hb8.mono (unhide BL7).size))
    clear hb8 BL7
    go_wp2_with fail
    refine (same10 _ _ _ _ _ _ _ _ _ _ rfl rfl rfl rfl rfl _).mono ?_
    rintro e wx ⟨rfl, hw⟩
    rw [hw]
    clear hw wx
    go_wp2_with fail
    go_ret
    exact ⟨rfl, unhide BL8⟩

set_option maxRecDepth 100000 in
set_option maxHeartbeats 4000000 in
theorem law4bf (kv av : ByteArray) (kp ap : Bool) (kn km an d : Int) (w : World) (h1 : kv.size ≤ maxLen) (h2 : av.size ≤ maxLen) (hd0 : 0 ≤ d) (c3 : kv.size + av.size ≤ 1048576)
    (t1 : (kv.toList == av.toList) = true) (t2 : (kp == ap) = false) (hsb : smB kv kp av ap = false) (tm : (kn == an) = false) :
    Calls Try.prog 4 #[.string kv, .bool kp, .int .u64 kn, .int .u64 km, .int .u8 d, .string av, .bool ap, .int .u64 an] w fun e w' => e = .returned (.bool true) ∧ Below w.heap.size w w' := by
  have hby : bytB kv.size av.size = true := by simp [bytB]; omega
  have BL0 := hide (Below.refl w.heap.size w)
  have nx := next_eq kn
  go_enter Try.func4, Try.ntmps4
  go_wp2_with fail
  refine (bytes11 kv av kp ap kn km an d _ h1 h2).mono ?_
  rintro e wx ⟨rfl, hw⟩
  rw [hw]
  clear hw wx
  go_wp2_with fail
  refine (z0 kv av kp ap kn km an _).mono ?_
  rintro e w1 ⟨rfl, hb1⟩
  have BL1 := hide ((unhide BL0).trans (hb1.mono (unhide BL0).size))
  clear hb1 BL0
  go_wp2_with fail
  refine (same10 _ _ _ _ _ _ _ _ _ _ rfl rfl rfl rfl rfl _).mono ?_
  rintro e wx ⟨rfl, hw⟩
  rw [hw]
  clear hw wx
  go_wp2_with fail
  refine (z1 kv av kp ap kn km an _).mono ?_
  rintro e w2 ⟨rfl, hb2⟩
  have BL2 := hide ((unhide BL1).trans (hb2.mono (unhide BL1).size))
  clear hb2 BL1
  go_wp2_with fail
  refine (same10 _ _ _ _ _ _ _ _ _ _ rfl rfl rfl rfl rfl _).mono ?_
  rintro e wx ⟨rfl, hw⟩
  rw [hw]
  clear hw wx
  go_wp2_with fail
  refine (z2 kv av kp ap kn km an _).mono ?_
  rintro e w3 ⟨rfl, hb3⟩
  have BL3 := hide ((unhide BL2).trans (hb3.mono (unhide BL2).size))
  clear hb3 BL2
  go_wp2_with fail
  refine (same10 _ _ _ _ _ _ _ _ _ _ rfl rfl rfl rfl rfl _).mono ?_
  rintro e wx ⟨rfl, hw⟩
  rw [hw]
  clear hw wx
  go_wp2_with fail
  refine (z6 kv av kp ap kn km an _).mono ?_
  rintro e w4 ⟨rfl, hb4⟩
  have BL4 := hide ((unhide BL3).trans (hb4.mono (unhide BL3).size))
  clear hb4 BL3
  go_wp2_with fail
  refine (same10 _ _ _ _ _ _ _ _ _ _ rfl rfl rfl rfl rfl _).mono ?_
  rintro e wx ⟨rfl, hw⟩
  rw [hw]
  clear hw wx
  go_wp2_with fail
  refine (z3 kv av kp ap kn km an _).mono ?_
  rintro e w5 ⟨rfl, hb5⟩
  have BL5 := hide ((unhide BL4).trans (hb5.mono (unhide BL4).size))
  clear hb5 BL4
  go_wp2_with fail
  refine (same10 _ _ _ _ _ _ _ _ _ _ rfl rfl rfl rfl rfl _).mono ?_
  rintro e wx ⟨rfl, hw⟩
  rw [hw]
  clear hw wx
  go_wp2_with fail
  refine (z5 kv av kp ap kn km an _).mono ?_
  rintro e w6 ⟨rfl, hb6⟩
  have BL6 := hide ((unhide BL5).trans (hb6.mono (unhide BL5).size))
  clear hb6 BL5
  go_wp2_with fail
  refine (same10 _ _ _ _ _ _ _ _ _ _ rfl rfl rfl rfl rfl _).mono ?_
  rintro e wx ⟨rfl, hw⟩
  rw [hw]
  clear hw wx
  go_wp2_with fail
  refine (z4f kv av kp ap kn km an tm _).mono ?_
  rintro e w7 ⟨rfl, hb7⟩
  have BL7 := hide ((unhide BL6).trans (hb7.mono (unhide BL6).size))
  clear hb7 BL6
  go_wp2_with fail
  refine (same10 _ _ _ _ _ _ _ _ _ _ rfl rfl rfl rfl rfl _).mono ?_
  rintro e wx ⟨rfl, hw⟩
  rw [hw]
  clear hw wx
  go_wp2_with fail
  rcases (show d = 0 ∨ d = 1 ∨ d = 2 ∨ d = 3 ∨ d = 4 ∨ d = 5 ∨ d = 6 ∨ 6 < d by omega) with rfl | rfl | rfl | rfl | rfl | rfl | rfl | hd7
  · refine (z0 kv av kp ap kn km an _).mono ?_
    rintro e w8 ⟨rfl, hb8⟩
    have BL8 := hide ((unhide BL7).trans (hb8.mono (unhide BL7).size))
    clear hb8 BL7
    go_wp2_with fail
    refine (same10 _ _ _ _ _ _ _ _ _ _ rfl rfl rfl rfl rfl _).mono ?_
    rintro e wx ⟨rfl, hw⟩
    rw [hw]
    clear hw wx
    go_wp2_with fail
    go_ret
    exact ⟨rfl, unhide BL8⟩
  · refine (z1 kv av kp ap kn km an _).mono ?_
    rintro e w8 ⟨rfl, hb8⟩
    have BL8 := hide ((unhide BL7).trans (hb8.mono (unhide BL7).size))
    clear hb8 BL7
    go_wp2_with fail
    refine (same10 _ _ _ _ _ _ _ _ _ _ rfl rfl rfl rfl rfl _).mono ?_
    rintro e wx ⟨rfl, hw⟩
    rw [hw]
    clear hw wx
    go_wp2_with fail
    go_ret
    exact ⟨rfl, unhide BL8⟩
  · refine (z2 kv av kp ap kn km an _).mono ?_
    rintro e w8 ⟨rfl, hb8⟩
    have BL8 := hide ((unhide BL7).trans (hb8.mono (unhide BL7).size))
    clear hb8 BL7
    go_wp2_with fail
    refine (same10 _ _ _ _ _ _ _ _ _ _ rfl rfl rfl rfl rfl _).mono ?_
    rintro e wx ⟨rfl, hw⟩
    rw [hw]
    clear hw wx
    go_wp2_with fail
    go_ret
    exact ⟨rfl, unhide BL8⟩
  · refine (z3 kv av kp ap kn km an _).mono ?_
    rintro e w8 ⟨rfl, hb8⟩
    have BL8 := hide ((unhide BL7).trans (hb8.mono (unhide BL7).size))
    clear hb8 BL7
    go_wp2_with fail
    refine (same10 _ _ _ _ _ _ _ _ _ _ rfl rfl rfl rfl rfl _).mono ?_
    rintro e wx ⟨rfl, hw⟩
    rw [hw]
    clear hw wx
    go_wp2_with fail
    go_ret
    exact ⟨rfl, unhide BL8⟩
  · refine (z4f kv av kp ap kn km an tm _).mono ?_
    rintro e w8 ⟨rfl, hb8⟩
    have BL8 := hide ((unhide BL7).trans (hb8.mono (unhide BL7).size))
    clear hb8 BL7
    go_wp2_with fail
    refine (same10 _ _ _ _ _ _ _ _ _ _ rfl rfl rfl rfl rfl _).mono ?_
    rintro e wx ⟨rfl, hw⟩
    rw [hw]
    clear hw wx
    go_wp2_with fail
    go_ret
    exact ⟨rfl, unhide BL8⟩
  · refine (z5 kv av kp ap kn km an _).mono ?_
    rintro e w8 ⟨rfl, hb8⟩
    have BL8 := hide ((unhide BL7).trans (hb8.mono (unhide BL7).size))
    clear hb8 BL7
    go_wp2_with fail
    refine (same10 _ _ _ _ _ _ _ _ _ _ rfl rfl rfl rfl rfl _).mono ?_
    rintro e wx ⟨rfl, hw⟩
    rw [hw]
    clear hw wx
    go_wp2_with fail
    go_ret
    exact ⟨rfl, unhide BL8⟩
  · refine (z6 kv av kp ap kn km an _).mono ?_
    rintro e w8 ⟨rfl, hb8⟩
    have BL8 := hide ((unhide BL7).trans (hb8.mono (unhide BL7).size))
    clear hb8 BL7
    go_wp2_with fail
    refine (same10 _ _ _ _ _ _ _ _ _ _ rfl rfl rfl rfl rfl _).mono ?_
    rintro e wx ⟨rfl, hw⟩
    rw [hw]
    clear hw wx
    go_wp2_with fail
    go_ret
    exact ⟨rfl, unhide BL8⟩
  · refine (z7 kv av kp ap kn km an d hd7 _).mono ?_
    rintro e w8 ⟨rfl, hb8⟩
    have BL8 := hide ((unhide BL7).trans (hb8.mono (unhide BL7).size))
    clear hb8 BL7
    go_wp2_with fail
    refine (same10 _ _ _ _ _ _ _ _ _ _ rfl rfl rfl rfl rfl _).mono ?_
    rintro e wx ⟨rfl, hw⟩
    rw [hw]
    clear hw wx
    go_wp2_with fail
    go_ret
    exact ⟨rfl, unhide BL8⟩

set_option maxRecDepth 100000 in
set_option maxHeartbeats 4000000 in
theorem law4ct (kv av : ByteArray) (kp ap : Bool) (kn km an d : Int) (w : World) (h1 : kv.size ≤ maxLen) (h2 : av.size ≤ maxLen) (hd0 : 0 ≤ d) (c3 : kv.size + av.size ≤ 1048576)
    (t1 : (kv.toList == av.toList) = false) (hsb : smB kv kp av ap = false) (tm : (kn == an) = true) :
    Calls Try.prog 4 #[.string kv, .bool kp, .int .u64 kn, .int .u64 km, .int .u8 d, .string av, .bool ap, .int .u64 an] w fun e w' => e = .returned (.bool true) ∧ Below w.heap.size w w' := by
  have hby : bytB kv.size av.size = true := by simp [bytB]; omega
  have BL0 := hide (Below.refl w.heap.size w)
  have nx := next_eq kn
  go_enter Try.func4, Try.ntmps4
  go_wp2_with fail
  refine (bytes11 kv av kp ap kn km an d _ h1 h2).mono ?_
  rintro e wx ⟨rfl, hw⟩
  rw [hw]
  clear hw wx
  go_wp2_with fail
  refine (z0 kv av kp ap kn km an _).mono ?_
  rintro e w1 ⟨rfl, hb1⟩
  have BL1 := hide ((unhide BL0).trans (hb1.mono (unhide BL0).size))
  clear hb1 BL0
  go_wp2_with fail
  refine (same10 _ _ _ _ _ _ _ _ _ _ rfl rfl rfl rfl rfl _).mono ?_
  rintro e wx ⟨rfl, hw⟩
  rw [hw]
  clear hw wx
  go_wp2_with fail
  refine (z1 kv av kp ap kn km an _).mono ?_
  rintro e w2 ⟨rfl, hb2⟩
  have BL2 := hide ((unhide BL1).trans (hb2.mono (unhide BL1).size))
  clear hb2 BL1
  go_wp2_with fail
  refine (same10 _ _ _ _ _ _ _ _ _ _ rfl rfl rfl rfl rfl _).mono ?_
  rintro e wx ⟨rfl, hw⟩
  rw [hw]
  clear hw wx
  go_wp2_with fail
  refine (z2 kv av kp ap kn km an _).mono ?_
  rintro e w3 ⟨rfl, hb3⟩
  have BL3 := hide ((unhide BL2).trans (hb3.mono (unhide BL2).size))
  clear hb3 BL2
  go_wp2_with fail
  refine (same10 _ _ _ _ _ _ _ _ _ _ rfl rfl rfl rfl rfl _).mono ?_
  rintro e wx ⟨rfl, hw⟩
  rw [hw]
  clear hw wx
  go_wp2_with fail
  refine (z6 kv av kp ap kn km an _).mono ?_
  rintro e w4 ⟨rfl, hb4⟩
  have BL4 := hide ((unhide BL3).trans (hb4.mono (unhide BL3).size))
  clear hb4 BL3
  go_wp2_with fail
  refine (same10 _ _ _ _ _ _ _ _ _ _ rfl rfl rfl rfl rfl _).mono ?_
  rintro e wx ⟨rfl, hw⟩
  rw [hw]
  clear hw wx
  go_wp2_with fail
  refine (z3 kv av kp ap kn km an _).mono ?_
  rintro e w5 ⟨rfl, hb5⟩
  have BL5 := hide ((unhide BL4).trans (hb5.mono (unhide BL4).size))
  clear hb5 BL4
  go_wp2_with fail
  refine (same10 _ _ _ _ _ _ _ _ _ _ rfl rfl rfl rfl rfl _).mono ?_
  rintro e wx ⟨rfl, hw⟩
  rw [hw]
  clear hw wx
  go_wp2_with fail
  refine (z5 kv av kp ap kn km an _).mono ?_
  rintro e w6 ⟨rfl, hb6⟩
  have BL6 := hide ((unhide BL5).trans (hb6.mono (unhide BL5).size))
  clear hb6 BL5
  go_wp2_with fail
  refine (same10 _ _ _ _ _ _ _ _ _ _ rfl rfl rfl rfl rfl _).mono ?_
  rintro e wx ⟨rfl, hw⟩
  rw [hw]
  clear hw wx
  go_wp2_with fail
  refine (z4t kv av kp ap kn km an tm _).mono ?_
  rintro e w7 ⟨rfl, hb7⟩
  have BL7 := hide ((unhide BL6).trans (hb7.mono (unhide BL6).size))
  clear hb7 BL6
  go_wp2_with fail
  refine (same10 _ _ _ _ _ _ _ _ _ _ rfl rfl rfl rfl rfl _).mono ?_
  rintro e wx ⟨rfl, hw⟩
  rw [hw]
  clear hw wx
  go_wp2_with fail
  rcases (show d = 0 ∨ d = 1 ∨ d = 2 ∨ d = 3 ∨ d = 4 ∨ d = 5 ∨ d = 6 ∨ 6 < d by omega) with rfl | rfl | rfl | rfl | rfl | rfl | rfl | hd7
  · refine (z0 kv av kp ap kn km an _).mono ?_
    rintro e w8 ⟨rfl, hb8⟩
    have BL8 := hide ((unhide BL7).trans (hb8.mono (unhide BL7).size))
    clear hb8 BL7
    go_wp2_with fail
    refine (same10 _ _ _ _ _ _ _ _ _ _ rfl rfl rfl rfl rfl _).mono ?_
    rintro e wx ⟨rfl, hw⟩
    rw [hw]
    clear hw wx
    go_wp2_with fail
    go_ret
    exact ⟨rfl, unhide BL8⟩
  · refine (z1 kv av kp ap kn km an _).mono ?_
    rintro e w8 ⟨rfl, hb8⟩
    have BL8 := hide ((unhide BL7).trans (hb8.mono (unhide BL7).size))
    clear hb8 BL7
    go_wp2_with fail
    refine (same10 _ _ _ _ _ _ _ _ _ _ rfl rfl rfl rfl rfl _).mono ?_
    rintro e wx ⟨rfl, hw⟩
    rw [hw]
    clear hw wx
    go_wp2_with fail
    go_ret
    exact ⟨rfl, unhide BL8⟩
  · refine (z2 kv av kp ap kn km an _).mono ?_
    rintro e w8 ⟨rfl, hb8⟩
    have BL8 := hide ((unhide BL7).trans (hb8.mono (unhide BL7).size))
    clear hb8 BL7
    go_wp2_with fail
    refine (same10 _ _ _ _ _ _ _ _ _ _ rfl rfl rfl rfl rfl _).mono ?_
    rintro e wx ⟨rfl, hw⟩
    rw [hw]
    clear hw wx
    go_wp2_with fail
    go_ret
    exact ⟨rfl, unhide BL8⟩
  · refine (z3 kv av kp ap kn km an _).mono ?_
    rintro e w8 ⟨rfl, hb8⟩
    have BL8 := hide ((unhide BL7).trans (hb8.mono (unhide BL7).size))
    clear hb8 BL7
    go_wp2_with fail
    refine (same10 _ _ _ _ _ _ _ _ _ _ rfl rfl rfl rfl rfl _).mono ?_
    rintro e wx ⟨rfl, hw⟩
    rw [hw]
    clear hw wx
    go_wp2_with fail
    go_ret
    exact ⟨rfl, unhide BL8⟩
  · refine (z4t kv av kp ap kn km an tm _).mono ?_
    rintro e w8 ⟨rfl, hb8⟩
    have BL8 := hide ((unhide BL7).trans (hb8.mono (unhide BL7).size))
    clear hb8 BL7
    go_wp2_with fail
    refine (same10 _ _ _ _ _ _ _ _ _ _ rfl rfl rfl rfl rfl _).mono ?_
    rintro e wx ⟨rfl, hw⟩
    rw [hw]
    clear hw wx
    go_wp2_with fail
    go_ret
    exact ⟨rfl, unhide BL8⟩
  · refine (z5 kv av kp ap kn km an _).mono ?_
    rintro e w8 ⟨rfl, hb8⟩
    have BL8 := hide ((unhide BL7).trans (hb8.mono (unhide BL7).size))
    clear hb8 BL7
    go_wp2_with fail
    refine (same10 _ _ _ _ _ _ _ _ _ _ rfl rfl rfl rfl rfl _).mono ?_
    rintro e wx ⟨rfl, hw⟩
    rw [hw]
    clear hw wx
    go_wp2_with fail
    go_ret
    exact ⟨rfl, unhide BL8⟩
  · refine (z6 kv av kp ap kn km an _).mono ?_
    rintro e w8 ⟨rfl, hb8⟩
    have BL8 := hide ((unhide BL7).trans (hb8.mono (unhide BL7).size))
    clear hb8 BL7
    go_wp2_with fail
    refine (same10 _ _ _ _ _ _ _ _ _ _ rfl rfl rfl rfl rfl _).mono ?_
    rintro e wx ⟨rfl, hw⟩
    rw [hw]
    clear hw wx
    go_wp2_with fail
    go_ret
    exact ⟨rfl, unhide BL8⟩
  · refine (z7 kv av kp ap kn km an d hd7 _).mono ?_
    rintro e w8 ⟨rfl, hb8⟩
    have BL8 := hide ((unhide BL7).trans (hb8.mono (unhide BL7).size))
    clear hb8 BL7
    go_wp2_with fail
    refine (same10 _ _ _ _ _ _ _ _ _ _ rfl rfl rfl rfl rfl _).mono ?_
    rintro e wx ⟨rfl, hw⟩
    rw [hw]
    clear hw wx
    go_wp2_with fail
    go_ret
    exact ⟨rfl, unhide BL8⟩

set_option maxRecDepth 100000 in
set_option maxHeartbeats 4000000 in
theorem law4cf (kv av : ByteArray) (kp ap : Bool) (kn km an d : Int) (w : World) (h1 : kv.size ≤ maxLen) (h2 : av.size ≤ maxLen) (hd0 : 0 ≤ d) (c3 : kv.size + av.size ≤ 1048576)
    (t1 : (kv.toList == av.toList) = false) (hsb : smB kv kp av ap = false) (tm : (kn == an) = false) :
    Calls Try.prog 4 #[.string kv, .bool kp, .int .u64 kn, .int .u64 km, .int .u8 d, .string av, .bool ap, .int .u64 an] w fun e w' => e = .returned (.bool true) ∧ Below w.heap.size w w' := by
  have hby : bytB kv.size av.size = true := by simp [bytB]; omega
  have BL0 := hide (Below.refl w.heap.size w)
  have nx := next_eq kn
  go_enter Try.func4, Try.ntmps4
  go_wp2_with fail
  refine (bytes11 kv av kp ap kn km an d _ h1 h2).mono ?_
  rintro e wx ⟨rfl, hw⟩
  rw [hw]
  clear hw wx
  go_wp2_with fail
  refine (z0 kv av kp ap kn km an _).mono ?_
  rintro e w1 ⟨rfl, hb1⟩
  have BL1 := hide ((unhide BL0).trans (hb1.mono (unhide BL0).size))
  clear hb1 BL0
  go_wp2_with fail
  refine (same10 _ _ _ _ _ _ _ _ _ _ rfl rfl rfl rfl rfl _).mono ?_
  rintro e wx ⟨rfl, hw⟩
  rw [hw]
  clear hw wx
  go_wp2_with fail
  refine (z1 kv av kp ap kn km an _).mono ?_
  rintro e w2 ⟨rfl, hb2⟩
  have BL2 := hide ((unhide BL1).trans (hb2.mono (unhide BL1).size))
  clear hb2 BL1
  go_wp2_with fail
  refine (same10 _ _ _ _ _ _ _ _ _ _ rfl rfl rfl rfl rfl _).mono ?_
  rintro e wx ⟨rfl, hw⟩
  rw [hw]
  clear hw wx
  go_wp2_with fail
  refine (z2 kv av kp ap kn km an _).mono ?_
  rintro e w3 ⟨rfl, hb3⟩
  have BL3 := hide ((unhide BL2).trans (hb3.mono (unhide BL2).size))
  clear hb3 BL2
  go_wp2_with fail
  refine (same10 _ _ _ _ _ _ _ _ _ _ rfl rfl rfl rfl rfl _).mono ?_
  rintro e wx ⟨rfl, hw⟩
  rw [hw]
  clear hw wx
  go_wp2_with fail
  refine (z6 kv av kp ap kn km an _).mono ?_
  rintro e w4 ⟨rfl, hb4⟩
  have BL4 := hide ((unhide BL3).trans (hb4.mono (unhide BL3).size))
  clear hb4 BL3
  go_wp2_with fail
  refine (same10 _ _ _ _ _ _ _ _ _ _ rfl rfl rfl rfl rfl _).mono ?_
  rintro e wx ⟨rfl, hw⟩
  rw [hw]
  clear hw wx
  go_wp2_with fail
  refine (z3 kv av kp ap kn km an _).mono ?_
  rintro e w5 ⟨rfl, hb5⟩
  have BL5 := hide ((unhide BL4).trans (hb5.mono (unhide BL4).size))
  clear hb5 BL4
  go_wp2_with fail
  refine (same10 _ _ _ _ _ _ _ _ _ _ rfl rfl rfl rfl rfl _).mono ?_
  rintro e wx ⟨rfl, hw⟩
  rw [hw]
  clear hw wx
  go_wp2_with fail
  refine (z5 kv av kp ap kn km an _).mono ?_
  rintro e w6 ⟨rfl, hb6⟩
  have BL6 := hide ((unhide BL5).trans (hb6.mono (unhide BL5).size))
  clear hb6 BL5
  go_wp2_with fail
  refine (same10 _ _ _ _ _ _ _ _ _ _ rfl rfl rfl rfl rfl _).mono ?_
  rintro e wx ⟨rfl, hw⟩
  rw [hw]
  clear hw wx
  go_wp2_with fail
  refine (z4f kv av kp ap kn km an tm _).mono ?_
  rintro e w7 ⟨rfl, hb7⟩
  have BL7 := hide ((unhide BL6).trans (hb7.mono (unhide BL6).size))
  clear hb7 BL6
  go_wp2_with fail
  refine (same10 _ _ _ _ _ _ _ _ _ _ rfl rfl rfl rfl rfl _).mono ?_
  rintro e wx ⟨rfl, hw⟩
  rw [hw]
  clear hw wx
  go_wp2_with fail
  rcases (show d = 0 ∨ d = 1 ∨ d = 2 ∨ d = 3 ∨ d = 4 ∨ d = 5 ∨ d = 6 ∨ 6 < d by omega) with rfl | rfl | rfl | rfl | rfl | rfl | rfl | hd7
  · refine (z0 kv av kp ap kn km an _).mono ?_
    rintro e w8 ⟨rfl, hb8⟩
    have BL8 := hide ((unhide BL7).trans (hb8.mono (unhide BL7).size))
    clear hb8 BL7
    go_wp2_with fail
    refine (same10 _ _ _ _ _ _ _ _ _ _ rfl rfl rfl rfl rfl _).mono ?_
    rintro e wx ⟨rfl, hw⟩
    rw [hw]
    clear hw wx
    go_wp2_with fail
    go_ret
    exact ⟨rfl, unhide BL8⟩
  · refine (z1 kv av kp ap kn km an _).mono ?_
    rintro e w8 ⟨rfl, hb8⟩
    have BL8 := hide ((unhide BL7).trans (hb8.mono (unhide BL7).size))
    clear hb8 BL7
    go_wp2_with fail
    refine (same10 _ _ _ _ _ _ _ _ _ _ rfl rfl rfl rfl rfl _).mono ?_
    rintro e wx ⟨rfl, hw⟩
    rw [hw]
    clear hw wx
    go_wp2_with fail
    go_ret
    exact ⟨rfl, unhide BL8⟩
  · refine (z2 kv av kp ap kn km an _).mono ?_
    rintro e w8 ⟨rfl, hb8⟩
    have BL8 := hide ((unhide BL7).trans (hb8.mono (unhide BL7).size))
    clear hb8 BL7
    go_wp2_with fail
    refine (same10 _ _ _ _ _ _ _ _ _ _ rfl rfl rfl rfl rfl _).mono ?_
    rintro e wx ⟨rfl, hw⟩
    rw [hw]
    clear hw wx
    go_wp2_with fail
    go_ret
    exact ⟨rfl, unhide BL8⟩
  · refine (z3 kv av kp ap kn km an _).mono ?_
    rintro e w8 ⟨rfl, hb8⟩
    have BL8 := hide ((unhide BL7).trans (hb8.mono (unhide BL7).size))
    clear hb8 BL7
    go_wp2_with fail
    refine (same10 _ _ _ _ _ _ _ _ _ _ rfl rfl rfl rfl rfl _).mono ?_
    rintro e wx ⟨rfl, hw⟩
    rw [hw]
    clear hw wx
    go_wp2_with fail
    go_ret
    exact ⟨rfl, unhide BL8⟩
  · refine (z4f kv av kp ap kn km an tm _).mono ?_
    rintro e w8 ⟨rfl, hb8⟩
    have BL8 := hide ((unhide BL7).trans (hb8.mono (unhide BL7).size))
    clear hb8 BL7
    go_wp2_with fail
    refine (same10 _ _ _ _ _ _ _ _ _ _ rfl rfl rfl rfl rfl _).mono ?_
    rintro e wx ⟨rfl, hw⟩
    rw [hw]
    clear hw wx
    go_wp2_with fail
    go_ret
    exact ⟨rfl, unhide BL8⟩
  · refine (z5 kv av kp ap kn km an _).mono ?_
    rintro e w8 ⟨rfl, hb8⟩
    have BL8 := hide ((unhide BL7).trans (hb8.mono (unhide BL7).size))
    clear hb8 BL7
    go_wp2_with fail
    refine (same10 _ _ _ _ _ _ _ _ _ _ rfl rfl rfl rfl rfl _).mono ?_
    rintro e wx ⟨rfl, hw⟩
    rw [hw]
    clear hw wx
    go_wp2_with fail
    go_ret
    exact ⟨rfl, unhide BL8⟩
  · refine (z6 kv av kp ap kn km an _).mono ?_
    rintro e w8 ⟨rfl, hb8⟩
    have BL8 := hide ((unhide BL7).trans (hb8.mono (unhide BL7).size))
    clear hb8 BL7
    go_wp2_with fail
    refine (same10 _ _ _ _ _ _ _ _ _ _ rfl rfl rfl rfl rfl _).mono ?_
    rintro e wx ⟨rfl, hw⟩
    rw [hw]
    clear hw wx
    go_wp2_with fail
    go_ret
    exact ⟨rfl, unhide BL8⟩
  · refine (z7 kv av kp ap kn km an d hd7 _).mono ?_
    rintro e w8 ⟨rfl, hb8⟩
    have BL8 := hide ((unhide BL7).trans (hb8.mono (unhide BL7).size))
    clear hb8 BL7
    go_wp2_with fail
    refine (same10 _ _ _ _ _ _ _ _ _ _ rfl rfl rfl rfl rfl _).mono ?_
    rintro e wx ⟨rfl, hw⟩
    rw [hw]
    clear hw wx
    go_wp2_with fail
    go_ret
    exact ⟨rfl, unhide BL8⟩

set_option maxRecDepth 100000 in
/-- Two registers, three ways. -/
theorem law4 (kv av : ByteArray) (kp ap : Bool) (kn km an d : Int) (w : World) (h1 : kv.size ≤ maxLen) (h2 : av.size ≤ maxLen) (hd0 : 0 ≤ d) :
    Calls Try.prog 4 #[.string kv, .bool kp, .int .u64 kn, .int .u64 km, .int .u8 d, .string av, .bool ap, .int .u64 an] w fun e w' => e = .returned (.bool true) ∧ Below w.heap.size w w' := by
  by_cases hby : bytB kv.size av.size = true
  · have c3 : kv.size + av.size ≤ 1048576 := by simp [bytB] at hby; omega
    by_cases e1 : kv.toList = av.toList
    · by_cases e2 : kp = ap
      · have hs : smB kv kp av ap = true := by simp [smB, e1, e2]
        by_cases e3 : kn = an
        · exact law4att kv av kp ap kn km an d w h1 h2 hd0 c3 (by simp [e1]) (by simp [e2]) hs (by simp [e3])
        · exact law4atf kv av kp ap kn km an d w h1 h2 hd0 c3 (by simp [e1]) (by simp [e2]) hs (by simp [e3])
      · have hs : smB kv kp av ap = false := by simp [smB, e2]
        by_cases e3 : kn = an
        · exact law4bt kv av kp ap kn km an d w h1 h2 hd0 c3 (by simp [e1]) (by simp [e2]) hs (by simp [e3])
        · exact law4bf kv av kp ap kn km an d w h1 h2 hd0 c3 (by simp [e1]) (by simp [e2]) hs (by simp [e3])
    · have hs : smB kv kp av ap = false := by simp [smB, e1]
      by_cases e3 : kn = an
      · exact law4ct kv av kp ap kn km an d w h1 h2 hd0 c3 (by simp [e1]) hs (by simp [e3])
      · exact law4cf kv av kp ap kn km an d w h1 h2 hd0 c3 (by simp [e1]) hs (by simp [e3])
  · have hbf : bytB kv.size av.size = false := by simpa using hby
    clear hby
    go_enter Try.func4, Try.ntmps4
    go_wp2_with fail
    refine (bytes11 kv av kp ap kn km an d _ h1 h2).mono ?_
    rintro e wx ⟨rfl, hw⟩
    rw [hw]
    clear hw wx
    go_wp2_with fail
    go_ret
    exact ⟨rfl, Below.refl _ _⟩


end Go.Proofs.Qxb6601795a.Af
