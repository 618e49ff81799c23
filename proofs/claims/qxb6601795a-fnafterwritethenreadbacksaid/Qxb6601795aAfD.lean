/-
  FnAfterWriteThenReadBack: the walk.
-/
import Derived.Test.Qxb6601795aAfB
namespace Go.Proofs.Qxb6601795a.Af
open Go.RowKit

/-- What the bound on total length says of three lengths. -/
def bytC (a b c : Nat) : Bool := decide (a ≤ 1048576 ∧ b ≤ 1048576 ∧ a + b ≤ 1048576 ∧ c ≤ 1048576 ∧ a + b + c ≤ 1048576)

theorem bytes12 (kv wv ov : ByteArray) (kp wp op : Bool) (kn km : Int) (w : World) (h1 : kv.size ≤ maxLen) (h2 : wv.size ≤ maxLen) (h3 : ov.size ≤ maxLen) :
    Calls Try.prog 12 #[.string kv, .bool kp, .int .u64 kn, .int .u64 km, .string wv, .bool wp, .string ov, .bool op] w fun e w' => e = .returned (.bool (bytC kv.size wv.size ov.size)) ∧ w' = w := by
  unfold maxLen at h1 h2 h3
  by_cases c1 : kv.size ≤ 1048576
  · by_cases c2 : wv.size ≤ 1048576
    · by_cases c3 : kv.size + wv.size ≤ 1048576
      · by_cases c4 : ov.size ≤ 1048576
        · by_cases c5 : kv.size + wv.size + ov.size ≤ 1048576
          · go_enter Try.func12, Try.ntmps12
            go_wp2
            go_ret
            exact ⟨by simp [bytC, c1, c2, c3, c4, c5], rfl⟩
          · go_enter Try.func12, Try.ntmps12
            go_wp2
            go_ret
            exact ⟨by simp [bytC]; omega, rfl⟩
        · go_enter Try.func12, Try.ntmps12
          go_wp2
          go_ret
          exact ⟨by simp [bytC]; omega, rfl⟩
      · go_enter Try.func12, Try.ntmps12
        go_wp2
        go_ret
        exact ⟨by simp [bytC]; omega, rfl⟩
    · go_enter Try.func12, Try.ntmps12
      go_wp2
      go_ret
      exact ⟨by simp [bytC]; omega, rfl⟩
  · go_enter Try.func12, Try.ntmps12
    go_wp2
    go_ret
    exact ⟨by simp [bytC]; omega, rfl⟩

theorem next_is (n : Int) : IntKind.u64.wrap (n + 1) = next n := rfl
theorem next_ne (n : Int) : (next n == n) = false := by
  rw [beq_eq_false_iff_ne]
  unfold next
  rw [IntKind.wrap_u64]
  omega
theorem sm_refl (v : ByteArray) (p : Bool) : smB v p v p = true := by simp [smB]

set_option maxRecDepth 100000 in
set_option maxHeartbeats 4000000 in
theorem law5a (kv wv ov : ByteArray) (kp wp op : Bool) (kn km : Int) (w : World) (h1 : kv.size ≤ maxLen) (h2 : wv.size ≤ maxLen) (h3 : ov.size ≤ maxLen) (c5 : kv.size + wv.size + ov.size ≤ 1048576)
    (hnx : (next kn == kn) = false) (t1 : (ov.toList == wv.toList) = true) (t2 : (op == wp) = true) (hsb : smB wv wp ov op = true) :
    Calls Try.prog 5 #[.string kv, .bool kp, .int .u64 kn, .int .u64 km, .string wv, .bool wp, .string ov, .bool op] w fun e w' => e = .returned (.bool true) ∧ Below w.heap.size w w' := by
  have hby : bytC kv.size wv.size ov.size = true := by simp [bytC]; omega
  have BL0 := hide (Below.refl w.heap.size w)
  have nx := next_is kn
  have sr := sm_refl wv wp
  go_enter Try.func5, Try.ntmps5
  go_wp2_with fail
  refine (bytes12 kv wv ov kp wp op kn km _ h1 h2 h3).mono ?_
  rintro e wx ⟨rfl, hw⟩
  rw [hw]
  clear hw wx
  go_wp2_with fail
  refine (z2 kv wv kp wp kn km 0 _).mono ?_
  rintro e w1 ⟨rfl, hb1⟩
  have BL1 := hide ((unhide BL0).trans (hb1.mono (unhide BL0).size))
  clear hb1 BL0
  go_wp2_with fail
  refine (same10 _ _ _ _ _ _ _ _ _ _ rfl rfl rfl rfl rfl _).mono ?_
  rintro e wx ⟨rfl, hw⟩
  rw [hw]
  clear hw wx
  go_wp2_with fail
  refine (z6 kv wv kp wp kn km km _).mono ?_
  rintro e w2 ⟨rfl, hb2⟩
  have BL2 := hide ((unhide BL1).trans (hb2.mono (unhide BL1).size))
  clear hb2 BL1
  go_wp2_with fail
  refine (same10 _ _ _ _ _ _ _ _ _ _ rfl rfl rfl rfl rfl _).mono ?_
  rintro e wx ⟨rfl, hw⟩
  rw [hw]
  clear hw wx
  go_wp2_with fail
  refine (z3 kv wv kp wp kn km kn _).mono ?_
  rintro e w3 ⟨rfl, hb3⟩
  have BL3 := hide ((unhide BL2).trans (hb3.mono (unhide BL2).size))
  clear hb3 BL2
  go_wp2_with fail
  refine (same10 _ _ _ _ _ _ _ _ _ _ rfl rfl rfl rfl rfl _).mono ?_
  rintro e wx ⟨rfl, hw⟩
  rw [hw]
  clear hw wx
  go_wp2_with fail
  refine (z4t kv wv kp wp kn km kn (by simp) _).mono ?_
  rintro e w4 ⟨rfl, hb4⟩
  have BL4 := hide ((unhide BL3).trans (hb4.mono (unhide BL3).size))
  clear hb4 BL3
  go_wp2_with fail
  refine (same10 _ _ _ _ _ _ _ _ _ _ rfl rfl rfl rfl rfl _).mono ?_
  rintro e wx ⟨rfl, hw⟩
  rw [hw]
  clear hw wx
  go_wp2_with fail
  refine (z0 wv wv wp wp (next kn) 0 km _).mono ?_
  rintro e w5 ⟨rfl, hb5⟩
  have BL5 := hide ((unhide BL4).trans (hb5.mono (unhide BL4).size))
  clear hb5 BL4
  go_wp2_with fail
  refine (same10 _ _ _ _ _ _ _ _ _ _ rfl rfl rfl rfl rfl _).mono ?_
  rintro e wx ⟨rfl, hw⟩
  rw [hw]
  clear hw wx
  go_wp2_with fail
  refine (z1 wv wv wp wp (next kn) 0 (next kn) _).mono ?_
  rintro e w6 ⟨rfl, hb6⟩
  have BL6 := hide ((unhide BL5).trans (hb6.mono (unhide BL5).size))
  clear hb6 BL5
  go_wp2_with fail
  refine (same10 _ _ _ _ _ _ _ _ _ _ rfl rfl rfl rfl rfl _).mono ?_
  rintro e wx ⟨rfl, hw⟩
  rw [hw]
  clear hw wx
  go_wp2_with fail
  refine (z1 wv wv wp wp (next kn) 0 kn _).mono ?_
  rintro e w7 ⟨rfl, hb7⟩
  have BL7 := hide ((unhide BL6).trans (hb7.mono (unhide BL6).size))
  clear hb7 BL6
  go_wp2_with fail
  refine (same10 _ _ _ _ _ _ _ _ _ _ rfl rfl rfl rfl rfl _).mono ?_
  rintro e wx ⟨rfl, hw⟩
  rw [hw]
  clear hw wx
  go_wp2_with fail
  refine (z0 wv ov wp op (next kn) 0 0 _).mono ?_
  rintro e w8 ⟨rfl, hb8⟩
  have BL8 := hide ((unhide BL7).trans (hb8.mono (unhide BL7).size))
  clear hb8 BL7
  go_wp2_with fail
  refine (same10 _ _ _ _ _ _ _ _ _ _ rfl rfl rfl rfl rfl _).mono ?_
  rintro e wx ⟨rfl, hw⟩
  rw [hw]
  clear hw wx
  go_wp2_with fail
  refine (z5 wv ov wp op (next kn) 0 (next kn) _).mono ?_
  rintro e w9 ⟨rfl, hb9⟩
  have BL9 := hide ((unhide BL8).trans (hb9.mono (unhide BL8).size))
  clear hb9 BL8
  go_wp2_with fail
  refine (same10 _ _ _ _ _ _ _ _ _ _ rfl rfl rfl rfl rfl _).mono ?_
  rintro e wx ⟨rfl, hw⟩
  rw [hw]
  clear hw wx
  go_wp2_with fail
  go_ret
  exact ⟨rfl, unhide BL9⟩

set_option maxRecDepth 100000 in
set_option maxHeartbeats 4000000 in
theorem law5b (kv wv ov : ByteArray) (kp wp op : Bool) (kn km : Int) (w : World) (h1 : kv.size ≤ maxLen) (h2 : wv.size ≤ maxLen) (h3 : ov.size ≤ maxLen) (c5 : kv.size + wv.size + ov.size ≤ 1048576)
    (hnx : (next kn == kn) = false) (t1 : (ov.toList == wv.toList) = true) (t2 : (op == wp) = false) (hsb : smB wv wp ov op = false) :
    Calls Try.prog 5 #[.string kv, .bool kp, .int .u64 kn, .int .u64 km, .string wv, .bool wp, .string ov, .bool op] w fun e w' => e = .returned (.bool true) ∧ Below w.heap.size w w' := by
  have hby : bytC kv.size wv.size ov.size = true := by simp [bytC]; omega
  have BL0 := hide (Below.refl w.heap.size w)
  have nx := next_is kn
  have sr := sm_refl wv wp
  go_enter Try.func5, Try.ntmps5
  go_wp2_with fail
  refine (bytes12 kv wv ov kp wp op kn km _ h1 h2 h3).mono ?_
  rintro e wx ⟨rfl, hw⟩
  rw [hw]
  clear hw wx
  go_wp2_with fail
  refine (z2 kv wv kp wp kn km 0 _).mono ?_
  rintro e w1 ⟨rfl, hb1⟩
  have BL1 := hide ((unhide BL0).trans (hb1.mono (unhide BL0).size))
  clear hb1 BL0
  go_wp2_with fail
  refine (same10 _ _ _ _ _ _ _ _ _ _ rfl rfl rfl rfl rfl _).mono ?_
  rintro e wx ⟨rfl, hw⟩
  rw [hw]
  clear hw wx
  go_wp2_with fail
  refine (z6 kv wv kp wp kn km km _).mono ?_
  rintro e w2 ⟨rfl, hb2⟩
  have BL2 := hide ((unhide BL1).trans (hb2.mono (unhide BL1).size))
  clear hb2 BL1
  go_wp2_with fail
  refine (same10 _ _ _ _ _ _ _ _ _ _ rfl rfl rfl rfl rfl _).mono ?_
  rintro e wx ⟨rfl, hw⟩
  rw [hw]
  clear hw wx
  go_wp2_with fail
  refine (z3 kv wv kp wp kn km kn _).mono ?_
  rintro e w3 ⟨rfl, hb3⟩
  have BL3 := hide ((unhide BL2).trans (hb3.mono (unhide BL2).size))
  clear hb3 BL2
  go_wp2_with fail
  refine (same10 _ _ _ _ _ _ _ _ _ _ rfl rfl rfl rfl rfl _).mono ?_
  rintro e wx ⟨rfl, hw⟩
  rw [hw]
  clear hw wx
  go_wp2_with fail
  refine (z4t kv wv kp wp kn km kn (by simp) _).mono ?_
  rintro e w4 ⟨rfl, hb4⟩
  have BL4 := hide ((unhide BL3).trans (hb4.mono (unhide BL3).size))
  clear hb4 BL3
  go_wp2_with fail
  refine (same10 _ _ _ _ _ _ _ _ _ _ rfl rfl rfl rfl rfl _).mono ?_
  rintro e wx ⟨rfl, hw⟩
  rw [hw]
  clear hw wx
  go_wp2_with fail
  refine (z0 wv wv wp wp (next kn) 0 km _).mono ?_
  rintro e w5 ⟨rfl, hb5⟩
  have BL5 := hide ((unhide BL4).trans (hb5.mono (unhide BL4).size))
  clear hb5 BL4
  go_wp2_with fail
  refine (same10 _ _ _ _ _ _ _ _ _ _ rfl rfl rfl rfl rfl _).mono ?_
  rintro e wx ⟨rfl, hw⟩
  rw [hw]
  clear hw wx
  go_wp2_with fail
  refine (z1 wv wv wp wp (next kn) 0 (next kn) _).mono ?_
  rintro e w6 ⟨rfl, hb6⟩
  have BL6 := hide ((unhide BL5).trans (hb6.mono (unhide BL5).size))
  clear hb6 BL5
  go_wp2_with fail
  refine (same10 _ _ _ _ _ _ _ _ _ _ rfl rfl rfl rfl rfl _).mono ?_
  rintro e wx ⟨rfl, hw⟩
  rw [hw]
  clear hw wx
  go_wp2_with fail
  refine (z1 wv wv wp wp (next kn) 0 kn _).mono ?_
  rintro e w7 ⟨rfl, hb7⟩
  have BL7 := hide ((unhide BL6).trans (hb7.mono (unhide BL6).size))
  clear hb7 BL6
  go_wp2_with fail
  refine (same10 _ _ _ _ _ _ _ _ _ _ rfl rfl rfl rfl rfl _).mono ?_
  rintro e wx ⟨rfl, hw⟩
  rw [hw]
  clear hw wx
  go_wp2_with fail
  refine (z0 wv ov wp op (next kn) 0 0 _).mono ?_
  rintro e w8 ⟨rfl, hb8⟩
  have BL8 := hide ((unhide BL7).trans (hb8.mono (unhide BL7).size))
  clear hb8 BL7
  go_wp2_with fail
  refine (same10 _ _ _ _ _ _ _ _ _ _ rfl rfl rfl rfl rfl _).mono ?_
  rintro e wx ⟨rfl, hw⟩
  rw [hw]
  clear hw wx
  go_wp2_with fail
  refine (z5 wv ov wp op (next kn) 0 (next kn) _).mono ?_
  rintro e w9 ⟨rfl, hb9⟩
  have BL9 := hide ((unhide BL8).trans (hb9.mono (unhide BL8).size))
  clear hb9 BL8
  go_wp2_with fail
  refine (same10 _ _ _ _ _ _ _ _ _ _ rfl rfl rfl rfl rfl _).mono ?_
  rintro e wx ⟨rfl, hw⟩
  rw [hw]
  clear hw wx
  go_wp2_with fail
  go_ret
  exact ⟨rfl, unhide BL9⟩

set_option maxRecDepth 100000 in
set_option maxHeartbeats 4000000 in
theorem law5c (kv wv ov : ByteArray) (kp wp op : Bool) (kn km : Int) (w : World) (h1 : kv.size ≤ maxLen) (h2 : wv.size ≤ maxLen) (h3 : ov.size ≤ maxLen) (c5 : kv.size + wv.size + ov.size ≤ 1048576)
    (hnx : (next kn == kn) = false) (t1 : (ov.toList == wv.toList) = false) (hsb : smB wv wp ov op = false) :
    Calls Try.prog 5 #[.string kv, .bool kp, .int .u64 kn, .int .u64 km, .string wv, .bool wp, .string ov, .bool op] w fun e w' => e = .returned (.bool true) ∧ Below w.heap.size w w' := by
  have hby : bytC kv.size wv.size ov.size = true := by simp [bytC]; omega
  have BL0 := hide (Below.refl w.heap.size w)
  have nx := next_is kn
  have sr := sm_refl wv wp
  go_enter Try.func5, Try.ntmps5
  go_wp2_with fail
  refine (bytes12 kv wv ov kp wp op kn km _ h1 h2 h3).mono ?_
  rintro e wx ⟨rfl, hw⟩
  rw [hw]
  clear hw wx
  go_wp2_with fail
  refine (z2 kv wv kp wp kn km 0 _).mono ?_
  rintro e w1 ⟨rfl, hb1⟩
  have BL1 := hide ((unhide BL0).trans (hb1.mono (unhide BL0).size))
  clear hb1 BL0
  go_wp2_with fail
  refine (same10 _ _ _ _ _ _ _ _ _ _ rfl rfl rfl rfl rfl _).mono ?_
  rintro e wx ⟨rfl, hw⟩
  rw [hw]
  clear hw wx
  go_wp2_with fail
  refine (z6 kv wv kp wp kn km km _).mono ?_
  rintro e w2 ⟨rfl, hb2⟩
  have BL2 := hide ((unhide BL1).trans (hb2.mono (unhide BL1).size))
  clear hb2 BL1
  go_wp2_with fail
  refine (same10 _ _ _ _ _ _ _ _ _ _ rfl rfl rfl rfl rfl _).mono ?_
  rintro e wx ⟨rfl, hw⟩
  rw [hw]
  clear hw wx
  go_wp2_with fail
  refine (z3 kv wv kp wp kn km kn _).mono ?_
  rintro e w3 ⟨rfl, hb3⟩
  have BL3 := hide ((unhide BL2).trans (hb3.mono (unhide BL2).size))
  clear hb3 BL2
  go_wp2_with fail
  refine (same10 _ _ _ _ _ _ _ _ _ _ rfl rfl rfl rfl rfl _).mono ?_
  rintro e wx ⟨rfl, hw⟩
  rw [hw]
  clear hw wx
  go_wp2_with fail
  refine (z4t kv wv kp wp kn km kn (by simp) _).mono ?_
  rintro e w4 ⟨rfl, hb4⟩
  have BL4 := hide ((unhide BL3).trans (hb4.mono (unhide BL3).size))
  clear hb4 BL3
  go_wp2_with fail
  refine (same10 _ _ _ _ _ _ _ _ _ _ rfl rfl rfl rfl rfl _).mono ?_
  rintro e wx ⟨rfl, hw⟩
  rw [hw]
  clear hw wx
  go_wp2_with fail
  refine (z0 wv wv wp wp (next kn) 0 km _).mono ?_
  rintro e w5 ⟨rfl, hb5⟩
  have BL5 := hide ((unhide BL4).trans (hb5.mono (unhide BL4).size))
  clear hb5 BL4
  go_wp2_with fail
  refine (same10 _ _ _ _ _ _ _ _ _ _ rfl rfl rfl rfl rfl _).mono ?_
  rintro e wx ⟨rfl, hw⟩
  rw [hw]
  clear hw wx
  go_wp2_with fail
  refine (z1 wv wv wp wp (next kn) 0 (next kn) _).mono ?_
  rintro e w6 ⟨rfl, hb6⟩
  have BL6 := hide ((unhide BL5).trans (hb6.mono (unhide BL5).size))
  clear hb6 BL5
  go_wp2_with fail
  refine (same10 _ _ _ _ _ _ _ _ _ _ rfl rfl rfl rfl rfl _).mono ?_
  rintro e wx ⟨rfl, hw⟩
  rw [hw]
  clear hw wx
  go_wp2_with fail
  refine (z1 wv wv wp wp (next kn) 0 kn _).mono ?_
  rintro e w7 ⟨rfl, hb7⟩
  have BL7 := hide ((unhide BL6).trans (hb7.mono (unhide BL6).size))
  clear hb7 BL6
  go_wp2_with fail
  refine (same10 _ _ _ _ _ _ _ _ _ _ rfl rfl rfl rfl rfl _).mono ?_
  rintro e wx ⟨rfl, hw⟩
  rw [hw]
  clear hw wx
  go_wp2_with fail
  refine (z0 wv ov wp op (next kn) 0 0 _).mono ?_
  rintro e w8 ⟨rfl, hb8⟩
  have BL8 := hide ((unhide BL7).trans (hb8.mono (unhide BL7).size))
  clear hb8 BL7
  go_wp2_with fail
  refine (same10 _ _ _ _ _ _ _ _ _ _ rfl rfl rfl rfl rfl _).mono ?_
  rintro e wx ⟨rfl, hw⟩
  rw [hw]
  clear hw wx
  go_wp2_with fail
  refine (z5 wv ov wp op (next kn) 0 (next kn) _).mono ?_
  rintro e w9 ⟨rfl, hb9⟩
  have BL9 := hide ((unhide BL8).trans (hb9.mono (unhide BL8).size))
  clear hb9 BL8
  go_wp2_with fail
  refine (same10 _ _ _ _ _ _ _ _ _ _ rfl rfl rfl rfl rfl _).mono ?_
  rintro e wx ⟨rfl, hw⟩
  rw [hw]
  clear hw wx
  go_wp2_with fail
  go_ret
  exact ⟨rfl, unhide BL9⟩

set_option maxRecDepth 100000 in
theorem law5 (kv wv ov : ByteArray) (kp wp op : Bool) (kn km : Int) (w : World) (h1 : kv.size ≤ maxLen) (h2 : wv.size ≤ maxLen) (h3 : ov.size ≤ maxLen) :
    Calls Try.prog 5 #[.string kv, .bool kp, .int .u64 kn, .int .u64 km, .string wv, .bool wp, .string ov, .bool op] w fun e w' => e = .returned (.bool true) ∧ Below w.heap.size w w' := by
  have hnx := next_ne kn
  by_cases hby : bytC kv.size wv.size ov.size = true
  · have c5 : kv.size + wv.size + ov.size ≤ 1048576 := by simp [bytC] at hby; omega
    by_cases e1 : ov.toList = wv.toList
    · by_cases e2 : op = wp
      · exact law5a kv wv ov kp wp op kn km w h1 h2 h3 c5 hnx (by simp [e1]) (by simp [e2]) (by simp [smB, e1, e2])
      · exact law5b kv wv ov kp wp op kn km w h1 h2 h3 c5 hnx (by simp [e1]) (by simp [e2]) (by simp [smB]; intro _ h; exact e2 h.symm)
    · exact law5c kv wv ov kp wp op kn km w h1 h2 h3 c5 hnx (by simp [e1]) (by simp [smB]; intro h; exact absurd h.symm e1)
  · have hbf : bytC kv.size wv.size ov.size = false := by simpa using hby
    clear hby hnx
    go_enter Try.func5, Try.ntmps5
    go_wp2_with fail
    refine (bytes12 kv wv ov kp wp op kn km _ h1 h2 h3).mono ?_
    rintro e wx ⟨rfl, hw⟩
    rw [hw]
    clear hw wx
    go_wp2_with fail
    go_ret
    exact ⟨rfl, Below.refl _ _⟩


end Go.Proofs.Qxb6601795a.Af
