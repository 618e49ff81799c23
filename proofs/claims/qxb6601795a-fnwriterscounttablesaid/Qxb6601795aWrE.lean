/-
  FnWritersCountTable: the bound on the bytes.
-/
import Derived.Test.Qxb6601795aWrA
import Derived.Deep.LoopGhost
namespace Go.Proofs.Qxb6601795a.Wr
open Go.RowKit

def RetB (w : World) (e : Ending) (w' : World) : Prop := ∃ r : Bool, e = .returned (.bool r) ∧ w' = w

set_option maxHeartbeats 2000000 in
theorem bytes13 (ss : Nat → ByteArray) (a0 a1 a2 a3 a4 a5 : Option Addr) (l0 l1 l2 l3 l4 l5 c0 c1 c2 c3 c4 c5 : Nat) (q : ByteArray) (p : Bool) (w : World)
    (h0 : l0 ≤ maxLen) (h1 : l1 ≤ maxLen) (h2 : l2 ≤ maxLen) (h3 : l3 ≤ maxLen) (h4 : l4 ≤ maxLen) (h5 : l5 ≤ maxLen) (hq : q.size ≤ maxLen) (hs : ∀ i, i < l1 → (ss i).size ≤ maxLen)
    (hA : AtV w a1 l1 (fun i => .string (ss i))) :
    Calls Try.prog 13 #[.slice a0 l0 c0, .slice a1 l1 c1, .slice a2 l2 c2, .slice a3 l3 c3, .slice a4 l4 c4, .slice a5 l5 c5, .string q, .bool p] w (RetB w) := by
  unfold maxLen at h0 h1 h2 h3 h4 h5 hq hs
  have HA := hide hA
  have HS := hide hs
  clear hA hs
  by_cases x0 : 1048576 < l0
  · go_enter Try.func13, Try.ntmps13
    go_wp2
    go_ret
    exact ⟨_, rfl, rfl⟩
  by_cases x1 : 1048576 < l1
  · go_enter Try.func13, Try.ntmps13
    go_wp2
    go_ret
    exact ⟨_, rfl, rfl⟩
  by_cases x2 : 1048576 < l0 + l1
  · go_enter Try.func13, Try.ntmps13
    go_wp2
    go_ret
    exact ⟨_, rfl, rfl⟩
  go_enter Try.func13, Try.ntmps13
  go_wp2
  go_loop [17, 18] (fun s i => ∃ k t : Nat, k ≤ l1 ∧ i = .int .i64 k ∧ s = .int .i64 t ∧ t ≤ 1048576) (fun _ i => l1 - (intOf i).toNat)
  case atStart => exact ⟨0, l0 + l1, by omega, rfl, by go_num, by omega⟩
  case round =>
    obtain ⟨k, t, hk, rfl, rfl, ht⟩ := hrel
    by_cases hlt : k < l1
    · obtain ⟨g, o, rfl, e1, _⟩ := (unhide HA).get hlt
      have hsk := unhide HS k hlt
      obtain ⟨m, hm⟩ : ∃ m, m = (ss k).size := ⟨_, rfl⟩
      have i1 : (k : Int) < (l1 : Int) := by omega
      by_cases y1 : 1048576 < m
      · have y1' : (1048576 : Int) < ((ss k).size : Int) := by omega
        go_wp2
        go_ret
        exact ⟨_, rfl, rfl⟩
      by_cases y2 : 1048576 < t + m
      · have y1' : ¬ (1048576 : Int) < ((ss k).size : Int) := by omega
        have y2' : (1048576 : Int) < (t : Int) + ((ss k).size : Int) := by omega
        go_wp2
        go_ret
        exact ⟨_, rfl, rfl⟩
      · have y1' : ¬ (1048576 : Int) < ((ss k).size : Int) := by omega
        have y2' : ¬ (1048576 : Int) < (t : Int) + ((ss k).size : Int) := by omega
        go_wp2
        go_round
        case rel => exact ⟨k + 1, t + (ss k).size, by omega, by go_num, by go_num, by omega⟩
        case measure => simp [intOf]; omega
    · clear x0 x1 x2
      go_wp2
      all_goals (go_ret; exact ⟨_, rfl, rfl⟩)

end Go.Proofs.Qxb6601795a.Wr
