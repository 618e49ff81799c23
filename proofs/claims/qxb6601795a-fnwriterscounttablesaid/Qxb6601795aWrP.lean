/-
  FnWritersCountTable, the plain law: the map that writers builds, against the counts of the model. No walk in sight.
-/
import Derived.Test.Qxb6601795aRows
import Derived.Maps.OwnSet
import Derived.DeepKeys4
import Derived.WalkKit
namespace Go.Proofs.Qxb6601795a.Wr
open Go.RowKit Go.Maps
open Go.WideMaps (KeyLaw)

theorem hide {q : Prop} (h : q) : Hid q := h
theorem unhide {q : Prop} (h : Hid q) : q := h

theorem laidOut : laidOutB Try.prog = true := by kernel_rfl
theorem row54 : (54 : TypeId) < Try.prog.types.size := of_decide_eq_true (by kernel_rfl)
theorem wide54 : (match Try.prog.underlying 54 with | some (.array _ _) | some (.struct _) => true | _ => false) = true := by kernel_rfl
theorem law54 : Keyed Try.prog 54 := Keyed.of_law (deep_law_laid laidOut (m := 3) (by omega) row54 (by kernel_rfl) wide54)

/-- What a register reads as, as a key. -/
def rk (s : ByteArray) (p : Bool) : Lit := .string (keyBytes [.string s.data.toList, .bool p])

theorem kt54 : Try.prog.keyType 54 = true := by kernel_rfl
theorem cells54 : Try.prog.cellsOf 54 = 2 := by kernel_rfl
theorem cells9 : Try.prog.cellsOf 9 = 1 := by kernel_rfl
theorem cells4 : Try.prog.cellsOf 4 = 1 := by kernel_rfl
theorem types : Try.prog.types.size = 87 + 1 + 1 := by kernel_rfl

/-- The register's literals, at whatever depth beyond one. -/
theorem lits54 (d : Nat) (s : ByteArray) (p : Bool) (hs : s.size ≤ maxLen) : Try.prog.keyLits (d + 1 + 1) 54 [.string s, .bool p] = some [.string s.data.toList, .bool p] := by
  simp [Program.keyLits, Try.underlying54, Try.underlying9, Try.underlying4, cells54, cells9, cells4, hs]

theorem key54 (s : ByteArray) (p : Bool) (hs : s.size ≤ maxLen) : keyOf Try.prog 54 (.agg #[.string s, .bool p]) = some (rk s p) := by
  have hf : (Value.agg #[.string s, .bool p]).formed Try.prog 54 = true := by simp [Value.formed, Try.underlying54, cells54]
  rw [keyOf, Try.underlying54]
  simp only [kt54, hf, Bool.and_self, if_true, Value.cells]
  rw [types]
  show (Try.prog.keyLits (87 + 1 + 1 + 1) 54 [.string s, .bool p]).map _ = _
  rw [lits54 _ s p hs]
  rfl

theorem rk_key (s : ByteArray) (p : Bool) : WideAt.IsKeyLit (rk s p) := trivial
theorem rk_inj {a b : ByteArray} {p q : Bool} (ha : a.size ≤ maxLen) (hb : b.size ≤ maxLen) (h : rk a p = rk b q) : a = b ∧ p = q := by
  have := law54.inj (key54 a p ha) (by rw [h]; exact key54 b q hb)
  simpa using this
theorem toList_inj {a b : ByteArray} (h : a.toList = b.toList) : a = b := by
  rw [ByteArray.toList_eq, ByteArray.toList_eq] at h
  have h' := Array.toList_inj.1 h
  cases a; cases b
  simp at h'
  rw [h']

/-! ### The model, after k operations -/
/-- Does an operation of this kind write? -/
def wB (x : Int) : Bool := x == 2 || x == 3 || x == 4 || x == 6
/-- Does operation i write the register (v, p)? -/
def mt (dd : Nat → Int) (ss : Nat → ByteArray) (bb : Nat → Bool) (v : ByteArray) (p : Bool) (i : Nat) : Bool := wB (dd i) && ((ss i).toList == v.toList && bb i == p)
def cJ (dd : Nat → Int) (ss : Nat → ByteArray) (bb : Nat → Bool) (v : ByteArray) (p : Bool) : Nat → Nat
  | 0 => 0
  | k + 1 => if mt dd ss bb v p k then cJ dd ss bb v p k + 1 else cJ dd ss bb v p k
def aJ (dd : Nat → Int) (ss : Nat → ByteArray) (bb : Nat → Bool) (v : ByteArray) (p : Bool) : Nat → Int
  | 0 => -1
  | k + 1 => if mt dd ss bb v p k && cJ dd ss bb v p k == 0 then (k : Int) else aJ dd ss bb v p k
def mv (c : Nat) (a : Int) : Int := if c = 0 then 0 else if 1 < c then -1 else a
/-- The map that writers builds. -/
def dJ (dd : Nat → Int) (ss : Nat → ByteArray) (bb : Nat → Bool) : Nat → DataW Unit
  | 0 => .map []
  | k + 1 => if wB (dd k) then (dJ dd ss bb k).put (rk (ss k) (bb k)) (.lit (.int .i64 (if Maps.has (dJ dd ss bb k) (rk (ss k) (bb k)) then -1 else (k : Int)))) else dJ dd ss bb k
/-- How many registers are written by the first k operations. -/
def zJ (dd : Nat → Int) (ss : Nat → ByteArray) (bb : Nat → Bool) : Nat → Nat
  | 0 => 0
  | k + 1 => if wB (dd k) && cJ dd ss bb (ss k) (bb k) k == 0 then zJ dd ss bb k + 1 else zJ dd ss bb k

section
variable {dd : Nat → Int} {ss : Nat → ByteArray} {bb : Nat → Bool}

theorem dJ_isMap : ∀ k, IsMap (dJ dd ss bb k)
  | 0 => isMap_empty
  | k + 1 => by
    unfold dJ
    by_cases h : wB (dd k) = true
    · rw [if_pos h]; exact (dJ_isMap k).put _ _
    · rw [if_neg h]; exact dJ_isMap k

theorem table {n : Nat} (hs : ∀ i, i < n → (ss i).size ≤ maxLen) (v : ByteArray) (p : Bool) (hv : v.size ≤ maxLen) : ∀ k, k ≤ n →
    Maps.has (dJ dd ss bb k) (rk v p) = decide (0 < cJ dd ss bb v p k) ∧ (dJ dd ss bb k).atKey (rk v p) (.lit (.int .i64 0)) = .lit (.int .i64 (mv (cJ dd ss bb v p k) (aJ dd ss bb v p k)))
  | 0, _ => ⟨rfl, rfl⟩
  | k + 1, hk => by
    obtain ⟨h1, h2⟩ := table hs v p hv k (by omega)
    unfold dJ cJ aJ
    by_cases hw : wB (dd k) = true
    · rw [if_pos hw]
      by_cases he : (ss k).toList = v.toList ∧ bb k = p
      · obtain ⟨e1, e2⟩ := he
        have e3 := toList_inj e1
        have hm : mt dd ss bb v p k = true := by simp [mt, hw, e1, e2]
        rw [e3, e2, has_put_same (dJ_isMap k) (rk_key _ _), atKey_put_same (dJ_isMap k) (rk_key _ _), if_pos hm, h1, hm]
        refine ⟨by simp, ?_⟩
        congr 2
        by_cases c : cJ dd ss bb v p k = 0
        · simp [c, mv]
        · have c1 : 0 < cJ dd ss bb v p k := by omega
          simp [c, c1, mv]
      · have hm : mt dd ss bb v p k = false := by
          simp only [mt, hw, Bool.true_and]
          rw [Bool.and_eq_false_iff]
          by_cases e1 : (ss k).toList = v.toList
          · right
            have : ¬ bb k = p := fun h => he ⟨e1, h⟩
            simpa using this
          · left; simpa using e1
        have hne : rk v p ≠ rk (ss k) (bb k) := by
          intro h
          obtain ⟨a1, a2⟩ := rk_inj hv (hs k (by omega)) h
          exact he ⟨by rw [a1], a2.symm⟩
        rw [has_put_other hne, atKey_put_other hne, hm]
        simpa using ⟨h1, h2⟩
    · have hw' : wB (dd k) = false := by simpa using hw
      have hm : mt dd ss bb v p k = false := by simp [mt, hw']
      rw [if_neg hw, hm]
      simpa using ⟨h1, h2⟩

theorem size_step {n k : Nat} (hs : ∀ i, i < n → (ss i).size ≤ maxLen) (hk : k < n) (ht : Tidy (dJ dd ss bb k)) (hz : Maps.size (dJ dd ss bb k) = zJ dd ss bb k) : Maps.size (dJ dd ss bb (k + 1)) = zJ dd ss bb (k + 1) := by
  unfold dJ zJ
  by_cases hw : wB (dd k) = true
  · rw [if_pos hw, size_put ht, (table hs (ss k) (bb k) (hs k hk) k (by omega)).1, hw, hz]
    by_cases c : cJ dd ss bb (ss k) (bb k) k = 0
    · simp [c]
    · have c1 : 0 < cJ dd ss bb (ss k) (bb k) k := by omega
      simp [c, c1]
  · have hw' : wB (dd k) = false := by simpa using hw
    rw [if_neg hw, hw', hz]
    simp
end

end Go.Proofs.Qxb6601795a.Wr
