/-
  The law FnWritersCountTable: the walk (Qxb6601795aWrF), and the row by the frame of the guide.
-/
import Derived.Test.Qxb6601795aRows
import Derived.Test.Qxb6601795aWrF
import Derived.WalkKit
import Derived.ProofKit
import Derived.OpenShut
import Derived.ShutString
import Derived.ChangeOld
import Derived.Below
import Derived.SliceStrings
import Derived.Deep.Grids
namespace Go.Proofs.Qxb6601795a.fnWritersCountTable
open Go.ChangeShapes Go.WideShapes Go.ChangeAt Go.RowKit
open Go.ChangeMaps (open_string shut_string)
set_option linter.unusedVariables false

theorem own : ownKnob Try.prog.godebug = none := by kernel_rfl
theorem laidOut : laidOutB Try.prog = true := by kernel_rfl

/-- A slice that came in, as the walk takes it. -/
def Came (w : World) (a : Option Addr) (len cap : Nat) (f : Nat → Value) : Prop :=
  len ≤ maxLen ∧ Wr.AtV w a len f ∧ (a = none → len = 0 ∧ cap = 0)

theorem came_nil (w : World) (f : Nat → Value) : Came w none 0 0 f := ⟨by unfold maxLen; omega, .inl rfl, fun _ => ⟨rfl, rfl⟩⟩

theorem came_row {w : World} {x : Addr} {len cap : Nat} {f : Nat → Value} (h1 : len ≤ cap) (h2 : cap ≤ maxLen) (h3 : ∀ i, i < len → w.cell? (x.add i) = some (f i)) : Came w (some x) len cap f := by
  refine ⟨by omega, ?_, fun h => by simp at h⟩
  by_cases h0 : len = 0
  · exact .inl h0
  · obtain ⟨b, off, spot⟩ := x
    have hspot : spot = none := by simpa [Addr.add] using World.cell?_spot (h3 0 (by omega))
    subst hspot
    exact .inr ⟨b, off, rfl, fun i hi => by rw [← add_plain]; exact h3 i hi⟩

theorem getD_size {ss : List ByteArray} (h : ∀ s ∈ ss, s.size ≤ maxLen) (i : Nat) : (ss.getD i ByteArray.empty).size ≤ maxLen := by
  by_cases hi : i < ss.length
  · refine h _ ?_
    simp [List.getD, hi]
  · rw [show ss.getD i ByteArray.empty = ByteArray.empty from by simp [List.getD, Nat.le_of_not_lt hi]]
    exact Nat.zero_le _

/-! ### THE ROW's STEP -/
set_option maxRecDepth 100000 in
theorem lifted (os : Os) (started : os.Started) (H : Type) (enc : TypeId × Value → H) :
    ReturnsInHanded {} Try.checked os 6 .any (Rows.fnWritersCountTableSpec.pre6 enc Try.prog Try.f6 Rows.fnWritersCountTableRow.domain false) (Rows.fnWritersCountTableSpec.post enc Try.prog Try.f6 false true false false) := by
  refine returnsInHanded_of_change (C := Try.checked) own started (by kernel_rfl) Try.func6
    (ChangeSpec.witness6 (enc := enc) (C := Try.checked) false ⟨#[], #[.slice none 0 0, .slice none 0 0, .slice none 0 0, .slice none 0 0, .slice none 0 0, .slice none 0 0, .string ByteArray.empty, .bool false], []⟩ 8 (by kernel_rfl) (by kernel_rfl) (by kernel_rfl) (by kernel_rfl)) ?_
  intro W base args ds gs before hval0 hW _ _
  have hval : ∀ (j : Nat) t v, Try.f6.params[j]? = some t → args[j]? = some v → Value.okWide Try.prog W .any base t v := hval0
  have hW' := hW
  obtain ⟨p, q, hA0, hV, rfl, hfz, hnd⟩ := hW
  have hA : DataW.TrodAll enc Try.prog W 0 (fun _ => true) true Try.f6.params.toList args.toList ds p := hA0
  rw [Try.params6] at hA hval
  obtain ⟨v0, vs0, d0, ds0, p0, q0, hargs, rfl, rfl, h0, r0⟩ := trodAll_cons hA
  obtain ⟨v1, vs1, d1, ds1, p1, q1, rfl, rfl, rfl, h1, r1⟩ := trodAll_cons r0
  obtain ⟨v2, vs2, d2, ds2, p2, q2, rfl, rfl, rfl, h2, r2⟩ := trodAll_cons r1
  obtain ⟨v3, vs3, d3, ds3, p3, q3, rfl, rfl, rfl, h3, r3⟩ := trodAll_cons r2
  obtain ⟨v4, vs4, d4, ds4, p4, q4, rfl, rfl, rfl, h4, r4⟩ := trodAll_cons r3
  obtain ⟨v5, vs5, d5, ds5, p5, q5, rfl, rfl, rfl, h5, r5⟩ := trodAll_cons r4
  obtain ⟨v6, vs6, d6, ds6, p6, q6, rfl, rfl, rfl, h6, r6⟩ := trodAll_cons r5
  obtain ⟨v7, vs7, d7, ds7, p7, q7, rfl, rfl, rfl, h7, r7⟩ := trodAll_cons r6
  obtain ⟨rfl, rfl, rfl⟩ := trodAll_nil r7
  obtain rfl : args = #[v0, v1, v2, v3, v4, v5, v6, v7] := by cases args; simp_all
  obtain ⟨rfl, rfl⟩ := trodVars_none hV
  obtain ⟨a0, len0, cap0, rfl⟩ := okWide_slice Try.underlying33 (hval 0 33 v0 rfl rfl)
  have k0 := h0
  have lt0 : ∀ x ∈ p0, x.block < W.heap.size := by obtain ⟨m, hm⟩ := k0; exact DataW.trod_lt m _ _ _ hm
  obtain ⟨z0, w0⟩ : ∃ z : Nat → Int, Came W a0 len0 cap0 (fun i => .int .u8 (z i)) := by
    obtain ⟨fuel, hf⟩ := h0
    rcases open_ints Try.underlying33 Try.underlying5 (by kernel_rfl) hf with ⟨hcs, _⟩ | ⟨x, l, c, zs, hcs, _, hl, hm, hz, _, hcell, hwz⟩
    · simp [Value.cells] at hcs
      obtain ⟨rfl, rfl, rfl⟩ := hcs
      exact ⟨fun _ => 0, came_nil _ _⟩
    · simp [Value.cells] at hcs
      obtain ⟨rfl, rfl, rfl⟩ := hcs
      have hz' : zs.length = cap0 := by simpa using hz
      exact ⟨fun i => zs.getD i 0, came_row hl hm (fun i hi => hcell i (by omega))⟩
  obtain ⟨a1, len1, cap1, rfl⟩ := okWide_slice Try.underlying34 (hval 1 34 v1 rfl rfl)
  have k1 := h1
  have lt1 : ∀ x ∈ p1, x.block < W.heap.size := by obtain ⟨m, hm⟩ := k1; exact DataW.trod_lt m _ _ _ hm
  obtain ⟨z1, w1, s1⟩ : ∃ z : Nat → ByteArray, Came W a1 len1 cap1 (fun i => .string (z i)) ∧ ∀ i, i < len1 → (z i).size ≤ maxLen := by
    obtain ⟨fuel, hf⟩ := h1
    rcases open_strings Try.underlying34 Try.underlying9 (by kernel_rfl) hf with ⟨hcs, _⟩ | ⟨x, l, c, zs, hcs, _, hl, hm, hz, _, hcell, hwz⟩
    · simp [Value.cells] at hcs
      obtain ⟨rfl, rfl, rfl⟩ := hcs
      exact ⟨fun _ => ByteArray.empty, came_nil _ _, fun i hi => by omega⟩
    · simp [Value.cells] at hcs
      obtain ⟨rfl, rfl, rfl⟩ := hcs
      have hz' : zs.length = cap1 := by simpa using hz
      exact ⟨fun i => zs.getD i ByteArray.empty, came_row hl hm (fun i hi => hcell i (by omega)), fun i _ => getD_size hwz i⟩
  obtain ⟨a2, len2, cap2, rfl⟩ := okWide_slice Try.underlying35 (hval 2 35 v2 rfl rfl)
  have k2 := h2
  have lt2 : ∀ x ∈ p2, x.block < W.heap.size := by obtain ⟨m, hm⟩ := k2; exact DataW.trod_lt m _ _ _ hm
  obtain ⟨z2, w2⟩ : ∃ z : Nat → Bool, Came W a2 len2 cap2 (fun i => .bool (z i)) := by
    obtain ⟨fuel, hf⟩ := h2
    rcases Deep.open_bools Try.underlying35 Try.underlying4 (by kernel_rfl) hf with ⟨hcs, _⟩ | ⟨x, l, c, z, hcs, _, hl, hm, _, hcell⟩
    · simp [Value.cells] at hcs
      obtain ⟨rfl, rfl, rfl⟩ := hcs
      exact ⟨fun _ => false, came_nil _ _⟩
    · simp [Value.cells] at hcs
      obtain ⟨rfl, rfl, rfl⟩ := hcs
      exact ⟨z, came_row hl hm (fun i hi => hcell i (by omega))⟩
  obtain ⟨a3, len3, cap3, rfl⟩ := okWide_slice Try.underlying36 (hval 3 36 v3 rfl rfl)
  have k3 := h3
  have lt3 : ∀ x ∈ p3, x.block < W.heap.size := by obtain ⟨m, hm⟩ := k3; exact DataW.trod_lt m _ _ _ hm
  obtain ⟨z3, w3⟩ : ∃ z : Nat → Int, Came W a3 len3 cap3 (fun i => .int .u64 (z i)) := by
    obtain ⟨fuel, hf⟩ := h3
    rcases open_ints Try.underlying36 Try.underlying22 (by kernel_rfl) hf with ⟨hcs, _⟩ | ⟨x, l, c, zs, hcs, _, hl, hm, hz, _, hcell, hwz⟩
    · simp [Value.cells] at hcs
      obtain ⟨rfl, rfl, rfl⟩ := hcs
      exact ⟨fun _ => 0, came_nil _ _⟩
    · simp [Value.cells] at hcs
      obtain ⟨rfl, rfl, rfl⟩ := hcs
      have hz' : zs.length = cap3 := by simpa using hz
      exact ⟨fun i => zs.getD i 0, came_row hl hm (fun i hi => hcell i (by omega))⟩
  obtain ⟨a4, len4, cap4, rfl⟩ := okWide_slice Try.underlying37 (hval 4 37 v4 rfl rfl)
  have k4 := h4
  have lt4 : ∀ x ∈ p4, x.block < W.heap.size := by obtain ⟨m, hm⟩ := k4; exact DataW.trod_lt m _ _ _ hm
  obtain ⟨z4, w4⟩ : ∃ z : Nat → Int, Came W a4 len4 cap4 (fun i => .int .i64 (z i)) := by
    obtain ⟨fuel, hf⟩ := h4
    rcases open_ints Try.underlying37 Try.underlying2 (by kernel_rfl) hf with ⟨hcs, _⟩ | ⟨x, l, c, zs, hcs, _, hl, hm, hz, _, hcell, hwz⟩
    · simp [Value.cells] at hcs
      obtain ⟨rfl, rfl, rfl⟩ := hcs
      exact ⟨fun _ => 0, came_nil _ _⟩
    · simp [Value.cells] at hcs
      obtain ⟨rfl, rfl, rfl⟩ := hcs
      have hz' : zs.length = cap4 := by simpa using hz
      exact ⟨fun i => zs.getD i 0, came_row hl hm (fun i hi => hcell i (by omega))⟩
  obtain ⟨a5, len5, cap5, rfl⟩ := okWide_slice Try.underlying37 (hval 5 37 v5 rfl rfl)
  have k5 := h5
  have lt5 : ∀ x ∈ p5, x.block < W.heap.size := by obtain ⟨m, hm⟩ := k5; exact DataW.trod_lt m _ _ _ hm
  obtain ⟨z5, w5⟩ : ∃ z : Nat → Int, Came W a5 len5 cap5 (fun i => .int .i64 (z i)) := by
    obtain ⟨fuel, hf⟩ := h5
    rcases open_ints Try.underlying37 Try.underlying2 (by kernel_rfl) hf with ⟨hcs, _⟩ | ⟨x, l, c, zs, hcs, _, hl, hm, hz, _, hcell, hwz⟩
    · simp [Value.cells] at hcs
      obtain ⟨rfl, rfl, rfl⟩ := hcs
      exact ⟨fun _ => 0, came_nil _ _⟩
    · simp [Value.cells] at hcs
      obtain ⟨rfl, rfl, rfl⟩ := hcs
      have hz' : zs.length = cap5 := by simpa using hz
      exact ⟨fun i => zs.getD i 0, came_row hl hm (fun i hi => hcell i (by omega))⟩
  obtain ⟨a6, rfl, rfl, rfl, w6⟩ := open_string Try.underlying9 (hval 6 9 v6 rfl rfl) h6
  obtain ⟨a7, rfl, rfl, rfl⟩ := open_bool Try.underlying4 (hval 7 4 v7 rfl rfl) h7
  clear hA0 hval0
  refine (Wr.law6 z0 z1 z2 z3 z4 z5 a0 a1 a2 a3 a4 a5 len0 len1 len2 len3 len4 len5 cap0 cap1 cap2 cap3 cap4 cap5 a6 a7 W w0.1 w1.1 w2.1 w3.1 w4.1 w5.1 w6 s1 w0.2.1 w1.2.1 w2.2.1 w3.2.1 w4.2.1 w5.2.1 w0.2.2 w1.2.2 w2.2.2 w3.2.2 w4.2.2 w5.2.2).mono fun e W' ⟨he, bel⟩ => ?_
  subst he
  exact ⟨_, rfl, _, _, _, [], _, [], hW', trodAll_mk1 (shut_bool Try.underlying4 _), (trodAll_cons_mk (Below.trod laidOut (by kernel_rfl) (of_decide_eq_true (by kernel_rfl)) k0 bel lt0) (trodAll_cons_mk (Below.trod laidOut (by kernel_rfl) (of_decide_eq_true (by kernel_rfl)) k1 bel lt1) (trodAll_cons_mk (Below.trod laidOut (by kernel_rfl) (of_decide_eq_true (by kernel_rfl)) k2 bel lt2) (trodAll_cons_mk (Below.trod laidOut (by kernel_rfl) (of_decide_eq_true (by kernel_rfl)) k3 bel lt3) (trodAll_cons_mk (Below.trod laidOut (by kernel_rfl) (of_decide_eq_true (by kernel_rfl)) k4 bel lt4) (trodAll_cons_mk (Below.trod laidOut (by kernel_rfl) (of_decide_eq_true (by kernel_rfl)) k5 bel lt5) (trodAll_cons_mk (shut_string Try.underlying9 w6) (trodAll_cons_mk (shut_bool Try.underlying4 _) trodAll_mk0)))))))), rfl, bel.frame _, fun h => by cases h⟩

theorem over : Rows.fnWritersCountTableRow.holds Try.pinned (OpenSpec.ofChange Rows.fnWritersCountTableSpec) :=
  OpenClaim.holds_of_wide 6 Try.f6 rfl rfl rfl rfl rfl rfl rfl ⟨rfl, rfl, rfl, rfl, rfl⟩ rfl rfl rfl rfl rfl (by kernel_rfl) Try.func6 (by kernel_rfl)
    (of_decide_eq_true (by kernel_rfl)) (by unfold Func.isWrapper; first | (rw [if_pos (by decide +kernel)]; kernel_rfl) | (rw [if_neg (by decide +kernel)]; exact ⟨rfl, rfl⟩))
    (fun os started H enc _ => lifted os started H enc)

/-- THE STATEMENT -/
theorem proved : Rows.FnWritersCountTableSaid :=
  over
#print axioms proved
end Go.Proofs.Qxb6601795a.fnWritersCountTable
