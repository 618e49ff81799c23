/-
  (keyState).after and ZZAfter, kind by kind; zzSame.
-/
import Derived.Test.Qxb6601795aRows
import Derived.WalkKit
import Derived.WalkSpells
import Derived.Deep.QuietTactic
import Derived.BigQuiet
import Derived.Handy
namespace Go.Proofs.Qxb6601795a.Af
open Go.RowKit

theorem hide {q : Prop} (h : q) : Hid q := h
theorem unhide {q : Prop} (h : Hid q) : q := h

/-- Two registers are one: as Go compares them. -/
def smB (kv : ByteArray) (kp : Bool) (av : ByteArray) (ap : Bool) : Bool := decide (kv.toList = av.toList ∧ kp = ap)
/-- The version behind a put. -/
def next (n : Int) : Int := IntKind.u64.wrap (n + 1)

theorem after0a (kv av : ByteArray) (kp ap : Bool) (kn km an : Int) (h1 : kv.toList = av.toList) (h2 : kp = ap) (w : World) :
    Calls Try.prog 25 #[.agg #[.string kv, .bool kp, .int .u64 kn, .int .u64 km], .agg #[.int .u8 0, .string av, .bool ap, .int .u64 an]] w fun e w' => e = .returned (.tuple #[.agg #[.string kv, .bool kp, .int .u64 kn, .int .u64 km], .bool true]) ∧ Below w.heap.size w w' := by
  subst h2
  go_enter Try.func25, Try.ntmps25
  go_wp2
  go_region
  all_goals go_wp2
  all_goals exact bodyPost_ret (v := .tuple #[.agg #[.string kv, .bool kp, .int .u64 kn, .int .u64 km], .bool true]) (by simp [results, Try.results25, go_sem]) rfl ⟨rfl, by go_grown⟩
theorem after0b (kv av : ByteArray) (kp ap : Bool) (kn km an : Int) (h1 : kv.toList = av.toList) (h2 : ¬ kp = ap) (w : World) :
    Calls Try.prog 25 #[.agg #[.string kv, .bool kp, .int .u64 kn, .int .u64 km], .agg #[.int .u8 0, .string av, .bool ap, .int .u64 an]] w fun e w' => e = .returned (.tuple #[.agg #[.string kv, .bool kp, .int .u64 kn, .int .u64 km], .bool false]) ∧ Below w.heap.size w w' := by
  go_enter Try.func25, Try.ntmps25
  go_wp2
  go_region
  all_goals go_wp2
  all_goals exact bodyPost_ret (v := .tuple #[.agg #[.string kv, .bool kp, .int .u64 kn, .int .u64 km], .bool false]) (by simp [results, Try.results25, go_sem]) rfl ⟨rfl, by go_grown⟩
theorem after0c (kv av : ByteArray) (kp ap : Bool) (kn km an : Int) (h1 : ¬ kv.toList = av.toList) (w : World) :
    Calls Try.prog 25 #[.agg #[.string kv, .bool kp, .int .u64 kn, .int .u64 km], .agg #[.int .u8 0, .string av, .bool ap, .int .u64 an]] w fun e w' => e = .returned (.tuple #[.agg #[.string kv, .bool kp, .int .u64 kn, .int .u64 km], .bool false]) ∧ Below w.heap.size w w' := by
  go_enter Try.func25, Try.ntmps25
  go_wp2
  go_region
  all_goals go_wp2
  all_goals exact bodyPost_ret (v := .tuple #[.agg #[.string kv, .bool kp, .int .u64 kn, .int .u64 km], .bool false]) (by simp [results, Try.results25, go_sem]) rfl ⟨rfl, by go_grown⟩
theorem after0 (kv av : ByteArray) (kp ap : Bool) (kn km an : Int) (w : World) :
    Calls Try.prog 25 #[.agg #[.string kv, .bool kp, .int .u64 kn, .int .u64 km], .agg #[.int .u8 0, .string av, .bool ap, .int .u64 an]] w fun e w' => e = .returned (.tuple #[.agg #[.string kv, .bool kp, .int .u64 kn, .int .u64 km], .bool (smB kv kp av ap)]) ∧ Below w.heap.size w w' := by
  by_cases h1 : kv.toList = av.toList
  · by_cases h2 : kp = ap
    · rw [show smB kv kp av ap = true from by simp [smB, h1, h2]]
      exact after0a kv av kp ap kn km an h1 h2 w
    · rw [show smB kv kp av ap = false from by simp [smB, h2]]
      exact after0b kv av kp ap kn km an h1 h2 w
  · rw [show smB kv kp av ap = false from by simp [smB, h1]]
    exact after0c kv av kp ap kn km an h1 w

theorem after1a (kv av : ByteArray) (kp ap : Bool) (kn km an : Int) (h1 : kv.toList = av.toList) (h2 : kp = ap) (w : World) :
    Calls Try.prog 25 #[.agg #[.string kv, .bool kp, .int .u64 kn, .int .u64 km], .agg #[.int .u8 1, .string av, .bool ap, .int .u64 an]] w fun e w' => e = .returned (.tuple #[.agg #[.string kv, .bool kp, .int .u64 kn, .int .u64 km], .bool (kn == an)]) ∧ Below w.heap.size w w' := by
  subst h2
  go_enter Try.func25, Try.ntmps25
  go_wp2
  go_region
  all_goals go_wp2
  all_goals exact bodyPost_ret (v := .tuple #[.agg #[.string kv, .bool kp, .int .u64 kn, .int .u64 km], .bool (kn == an)]) (by simp [results, Try.results25, go_sem]) rfl ⟨rfl, by go_grown⟩
theorem after1b (kv av : ByteArray) (kp ap : Bool) (kn km an : Int) (h1 : kv.toList = av.toList) (h2 : ¬ kp = ap) (w : World) :
    Calls Try.prog 25 #[.agg #[.string kv, .bool kp, .int .u64 kn, .int .u64 km], .agg #[.int .u8 1, .string av, .bool ap, .int .u64 an]] w fun e w' => e = .returned (.tuple #[.agg #[.string kv, .bool kp, .int .u64 kn, .int .u64 km], .bool false]) ∧ Below w.heap.size w w' := by
  go_enter Try.func25, Try.ntmps25
  go_wp2
  go_region
  all_goals go_wp2
  all_goals exact bodyPost_ret (v := .tuple #[.agg #[.string kv, .bool kp, .int .u64 kn, .int .u64 km], .bool false]) (by simp [results, Try.results25, go_sem]) rfl ⟨rfl, by go_grown⟩
theorem after1c (kv av : ByteArray) (kp ap : Bool) (kn km an : Int) (h1 : ¬ kv.toList = av.toList) (w : World) :
    Calls Try.prog 25 #[.agg #[.string kv, .bool kp, .int .u64 kn, .int .u64 km], .agg #[.int .u8 1, .string av, .bool ap, .int .u64 an]] w fun e w' => e = .returned (.tuple #[.agg #[.string kv, .bool kp, .int .u64 kn, .int .u64 km], .bool false]) ∧ Below w.heap.size w w' := by
  go_enter Try.func25, Try.ntmps25
  go_wp2
  go_region
  all_goals go_wp2
  all_goals exact bodyPost_ret (v := .tuple #[.agg #[.string kv, .bool kp, .int .u64 kn, .int .u64 km], .bool false]) (by simp [results, Try.results25, go_sem]) rfl ⟨rfl, by go_grown⟩
theorem after1 (kv av : ByteArray) (kp ap : Bool) (kn km an : Int) (w : World) :
    Calls Try.prog 25 #[.agg #[.string kv, .bool kp, .int .u64 kn, .int .u64 km], .agg #[.int .u8 1, .string av, .bool ap, .int .u64 an]] w fun e w' => e = .returned (.tuple #[.agg #[.string kv, .bool kp, .int .u64 kn, .int .u64 km], .bool (smB kv kp av ap && (kn == an))]) ∧ Below w.heap.size w w' := by
  by_cases h1 : kv.toList = av.toList
  · by_cases h2 : kp = ap
    · rw [show smB kv kp av ap = true from by simp [smB, h1, h2], Bool.true_and]
      exact after1a kv av kp ap kn km an h1 h2 w
    · rw [show smB kv kp av ap = false from by simp [smB, h2], Bool.false_and]
      exact after1b kv av kp ap kn km an h1 h2 w
  · rw [show smB kv kp av ap = false from by simp [smB, h1], Bool.false_and]
    exact after1c kv av kp ap kn km an h1 w

theorem after2 (kv av : ByteArray) (kp ap : Bool) (kn km an : Int) (w : World) :
    Calls Try.prog 25 #[.agg #[.string kv, .bool kp, .int .u64 kn, .int .u64 km], .agg #[.int .u8 2, .string av, .bool ap, .int .u64 an]] w fun e w' => e = .returned (.tuple #[.agg #[.string av, .bool ap, .int .u64 (next kn), .int .u64 0], .bool true]) ∧ Below w.heap.size w w' := by
  unfold next
  go_enter Try.func25, Try.ntmps25
  go_wp2
  exact bodyPost_ret (v := .tuple #[.agg #[.string av, .bool ap, .int .u64 (IntKind.u64.wrap (kn + 1)), .int .u64 0], .bool true]) (by simp [results, Try.results25, go_sem]) rfl ⟨rfl, by go_grown⟩
theorem after6 (kv av : ByteArray) (kp ap : Bool) (kn km an : Int) (w : World) :
    Calls Try.prog 25 #[.agg #[.string kv, .bool kp, .int .u64 kn, .int .u64 km], .agg #[.int .u8 6, .string av, .bool ap, .int .u64 an]] w fun e w' => e = .returned (.tuple #[.agg #[.string av, .bool ap, .int .u64 (next kn), .int .u64 0], .bool true]) ∧ Below w.heap.size w w' := by
  unfold next
  go_enter Try.func25, Try.ntmps25
  go_wp2
  exact bodyPost_ret (v := .tuple #[.agg #[.string av, .bool ap, .int .u64 (IntKind.u64.wrap (kn + 1)), .int .u64 0], .bool true]) (by simp [results, Try.results25, go_sem]) rfl ⟨rfl, by go_grown⟩
theorem after3 (kv av : ByteArray) (kp ap : Bool) (kn km an : Int) (w : World) :
    Calls Try.prog 25 #[.agg #[.string kv, .bool kp, .int .u64 kn, .int .u64 km], .agg #[.int .u8 3, .string av, .bool ap, .int .u64 an]] w fun e w' => e = .returned (.tuple #[.agg #[.string av, .bool ap, .int .u64 (next kn), .int .u64 0], .bool (kn == an)]) ∧ Below w.heap.size w w' := by
  unfold next
  go_enter Try.func25, Try.ntmps25
  go_wp2
  exact bodyPost_ret (v := .tuple #[.agg #[.string av, .bool ap, .int .u64 (IntKind.u64.wrap (kn + 1)), .int .u64 0], .bool (kn == an)]) (by simp [results, Try.results25, go_sem]) rfl ⟨rfl, by go_grown⟩
theorem after4t (kv av : ByteArray) (kp ap : Bool) (kn km an : Int) (h : (kn == an) = true) (w : World) :
    Calls Try.prog 25 #[.agg #[.string kv, .bool kp, .int .u64 kn, .int .u64 km], .agg #[.int .u8 4, .string av, .bool ap, .int .u64 an]] w fun e w' => e = .returned (.tuple #[.agg #[.string av, .bool ap, .int .u64 (next kn), .int .u64 0], .bool true]) ∧ Below w.heap.size w w' := by
  unfold next
  go_enter Try.func25, Try.ntmps25
  go_wp2
  exact bodyPost_ret (v := .tuple #[.agg #[.string av, .bool ap, .int .u64 (IntKind.u64.wrap (kn + 1)), .int .u64 0], .bool true]) (by simp [results, Try.results25, go_sem]) rfl ⟨rfl, by go_grown⟩
theorem after4f (kv av : ByteArray) (kp ap : Bool) (kn km an : Int) (h : (kn == an) = false) (w : World) :
    Calls Try.prog 25 #[.agg #[.string kv, .bool kp, .int .u64 kn, .int .u64 km], .agg #[.int .u8 4, .string av, .bool ap, .int .u64 an]] w fun e w' => e = .returned (.tuple #[.agg #[.string kv, .bool kp, .int .u64 kn, .int .u64 km], .bool true]) ∧ Below w.heap.size w w' := by
  go_enter Try.func25, Try.ntmps25
  go_wp2
  exact bodyPost_ret (v := .tuple #[.agg #[.string kv, .bool kp, .int .u64 kn, .int .u64 km], .bool true]) (by simp [results, Try.results25, go_sem]) rfl ⟨rfl, by go_grown⟩
theorem after5 (kv av : ByteArray) (kp ap : Bool) (kn km an : Int) (w : World) :
    Calls Try.prog 25 #[.agg #[.string kv, .bool kp, .int .u64 kn, .int .u64 km], .agg #[.int .u8 5, .string av, .bool ap, .int .u64 an]] w fun e w' => e = .returned (.tuple #[.agg #[.string kv, .bool kp, .int .u64 kn, .int .u64 km], .bool (!(kn == an))]) ∧ Below w.heap.size w w' := by
  go_enter Try.func25, Try.ntmps25
  go_wp2
  exact bodyPost_ret (v := .tuple #[.agg #[.string kv, .bool kp, .int .u64 kn, .int .u64 km], .bool (!(kn == an))]) (by simp [results, Try.results25, go_sem]) rfl ⟨rfl, by go_grown⟩
theorem after7 (kv av : ByteArray) (kp ap : Bool) (kn km an d : Int) (h : 6 < d) (w : World) :
    Calls Try.prog 25 #[.agg #[.string kv, .bool kp, .int .u64 kn, .int .u64 km], .agg #[.int .u8 d, .string av, .bool ap, .int .u64 an]] w fun e w' => e = .returned (.tuple #[.agg #[.string kv, .bool kp, .int .u64 kn, .int .u64 km], .bool false]) ∧ Below w.heap.size w w' := by
  go_enter Try.func25, Try.ntmps25
  go_wp2
  exact bodyPost_ret (v := .tuple #[.agg #[.string kv, .bool kp, .int .u64 kn, .int .u64 km], .bool false]) (by simp [results, Try.results25, go_sem]) rfl ⟨rfl, by go_grown⟩

end Go.Proofs.Qxb6601795a.Af
