/-
  FnWritersCountTable: ZZWriters.
-/
import Derived.Test.Qxb6601795aWrB
import Derived.Deep.OwnRows
import Derived.Deep.LoopGhost
namespace Go.Proofs.Qxb6601795a.Wr
open Go.RowKit Go.Maps

theorem info69 : (Try.prog.info? 69).map (fun i => (i.size, i.bytes, i.zero.isSome)) = some (6, 56, true) := by kernel_rfl

theorem make67 (n : Nat) (hn : n ≤ 4096) : ∃ M : Array Value, M.size = n * 6 ∧ ∀ w : World, (Instr.makeSlice 67 (.int .i64 (n : Int)) (.int .i64 (n : Int))).run Try.prog w = .ok (.slice (some ⟨w.heap.size, 0, none⟩) n n) (w.alloc (.cells M 69)) := by
  obtain ⟨i, hi, hzz⟩ := Option.map_eq_some_iff.1 info69
  simp only [Prod.mk.injEq] at hzz
  obtain ⟨hs, hb, hz⟩ := hzz
  obtain ⟨z, hz⟩ := Option.isSome_iff_exists.1 hz
  refine ⟨madeCells z.cells (n * 6), size_madeCells _ _, fun w => ?_⟩
  have hr := run_make (P := Try.prog) w 67 69 i z Try.underlying67 hi hz .i64 .i64 n n (by omega) (Int.le_refl _) (by rw [hb]; omega) (by omega)
  simp only [Int.toNat_natCast, hs] at hr
  exact hr

def put6 (f : Nat → Value) (o : Nat) (a b c d e g : Value) : Nat → Value := fun j => if j = o + 5 then g else if j = o + 4 then e else if j = o + 3 then d else if j = o + 2 then c else if j = o + 1 then b else if j = o then a else f j

theorem rowIs_put6 {w : World} {b t n : Nat} {f : Nat → Value} (h : w.rowIs b t n f) (o : Nat) (v0 v1 v2 v3 v4 v5 : Value) :
    ((((((w.setCell ⟨b, o, none⟩ v0).setCell ⟨b, o + 1, none⟩ v1).setCell ⟨b, o + 2, none⟩ v2).setCell ⟨b, o + 3, none⟩ v3).setCell ⟨b, o + 4, none⟩ v4).setCell ⟨b, o + 5, none⟩ v5).rowIs b t n (put6 f o v0 v1 v2 v3 v4 v5) :=
  (((((h.set _ v0).set _ v1).set _ v2).set _ v3).set _ v4).set _ v5

def Ops6 (f : Nat → Value) (k : Nat) (dd : Nat → Int) (ss : Nat → ByteArray) (bb : Nat → Bool) (vv cc rr : Nat → Int) : Prop :=
  ∀ j, j < k → f (j * 6) = .int .u8 (dd j) ∧ f (j * 6 + 1) = .string (ss j) ∧ f (j * 6 + 2) = .bool (bb j) ∧ f (j * 6 + 3) = .int .u64 (vv j) ∧ f (j * 6 + 4) = .int .i64 (cc j) ∧ f (j * 6 + 5) = .int .i64 (rr j)

theorem Ops6.step {f : Nat → Value} {k : Nat} {dd : Nat → Int} {ss : Nat → ByteArray} {bb : Nat → Bool} {vv cc rr : Nat → Int} (h : Ops6 f k dd ss bb vv cc rr) :
    Ops6 (put6 f (k * 6) (.int .u8 (dd k)) (.string (ss k)) (.bool (bb k)) (.int .u64 (vv k)) (.int .i64 (cc k)) (.int .i64 (rr k))) (k + 1) dd ss bb vv cc rr := by
  intro j hj
  by_cases e : j = k
  · subst e
    simp [put6]
  · obtain ⟨h0, h1, h2, h3, h4, h5⟩ := h j (by omega)
    refine ⟨?_, ?_, ?_, ?_, ?_, ?_⟩ <;> (unfold put6; rw [if_neg (by omega), if_neg (by omega), if_neg (by omega), if_neg (by omega), if_neg (by omega), if_neg (by omega)]; assumption)

set_option maxHeartbeats 2000000 in
theorem writers19 (dd : Nat → Int) (ss : Nat → ByteArray) (bb : Nat → Bool) (vv cc rr : Nat → Int) (a0 a1 a2 a3 a4 a5 : Option Addr) (n c0 c1 c2 c3 c4 c5 : Nat) (w : World) (hn : n ≤ 4096) (hs : ∀ i, i < n → (ss i).size ≤ maxLen)
    (h0 : AtV w a0 n (fun i => .int .u8 (dd i))) (h1 : AtV w a1 n (fun i => .string (ss i))) (h2 : AtV w a2 n (fun i => .bool (bb i)))
    (h3 : AtV w a3 n (fun i => .int .u64 (vv i))) (h4 : AtV w a4 n (fun i => .int .i64 (cc i))) (h5 : AtV w a5 n (fun i => .int .i64 (rr i))) :
    Calls Try.prog 19 #[.slice a0 n c0, .slice a1 n c1, .slice a2 n c2, .slice a3 n c3, .slice a4 n c4, .slice a5 n c5] w fun e w' =>
      ∃ B, e = .returned (.map (some B)) ∧ Below w.heap.size w w' ∧ w'.ownsMap Try.prog 54 (plainElem Try.prog 3) B n (dJ dd ss bb n) ∧ Maps.size (dJ dd ss bb n) = zJ dd ss bb n := by
  obtain ⟨M, hM, hmk⟩ := make67 n hn
  have H0 := hide h0
  have H1 := hide h1
  have H2 := hide h2
  have H3 := hide h3
  have H4 := hide h4
  have H5 := hide h5
  have HS := hide hs
  clear h0 h1 h2 h3 h4 h5 hs
  go_enter Try.func19, Try.ntmps19
  go_wp2
  clear hmk
  obtain ⟨B, hB⟩ : ∃ B, B = w.heap.size := ⟨_, rfl⟩
  have R0 : Hid ((w.alloc (.cells M 69)).rowIs B 69 (n * 6) (fun i => M[i]?.getD (.bool false))) := by
    rw [hB, ← hM]
    exact World.rowIs_alloc w M 69 _ (fun i hi => by simp [hi])
  have BL0 : Hid (Below B w (w.alloc (.cells M 69))) := (Below.refl _ _).alloc (by omega) _
  rw [← hB]
  have HB := hide hB
  clear hB hM
  go_loopw [14] (fun i wr => ∃ (k : Nat) (f : Nat → Value), k ≤ n ∧ i = .int .i64 k ∧ wr.rowIs B 69 (n * 6) f ∧ Ops6 f k dd ss bb vv cc rr ∧ Below B w wr) (fun i _ => n - (intOf i).toNat)
  case atStart => exact ⟨0, _, by omega, rfl, unhide R0, fun j hj => by omega, unhide BL0⟩
  case round =>
    clear R0 BL0
    obtain ⟨k, f, hk, rfl, hrow, hf, hbel⟩ := hrel
    by_cases hlt : k < n
    · obtain ⟨g0, o0, rfl, e0, l0⟩ := (unhide H0).get hlt
      obtain ⟨g1, o1, rfl, e1, l1⟩ := (unhide H1).get hlt
      obtain ⟨g2, o2, rfl, e2, l2⟩ := (unhide H2).get hlt
      obtain ⟨g3, o3, rfl, e3, l3⟩ := (unhide H3).get hlt
      obtain ⟨g4, o4, rfl, e4, l4⟩ := (unhide H4).get hlt
      obtain ⟨g5, o5, rfl, e5, l5⟩ := (unhide H5).get hlt
      rw [← unhide HB] at l0 l1 l2 l3 l4 l5
      have d0 : wr.cell? ⟨g0, o0 + k, none⟩ = some (.int .u8 (dd k)) := (hbel.cell (by exact l0)).trans e0
      have d1 : wr.cell? ⟨g1, o1 + k, none⟩ = some (.string (ss k)) := (hbel.cell (by exact l1)).trans e1
      have d2 : wr.cell? ⟨g2, o2 + k, none⟩ = some (.bool (bb k)) := (hbel.cell (by exact l2)).trans e2
      have d3 : wr.cell? ⟨g3, o3 + k, none⟩ = some (.int .u64 (vv k)) := (hbel.cell (by exact l3)).trans e3
      have d4 : wr.cell? ⟨g4, o4 + k, none⟩ = some (.int .i64 (cc k)) := (hbel.cell (by exact l4)).trans e4
      have d5 : wr.cell? ⟨g5, o5 + k, none⟩ = some (.int .i64 (rr k)) := (hbel.cell (by exact l5)).trans e5
      have t0 := hrow.cell (i := k * 6) (by omega)
      have t1 := hrow.cell (i := k * 6 + 1) (by omega)
      have t2 := hrow.cell (i := k * 6 + 2) (by omega)
      have t3 := hrow.cell (i := k * 6 + 3) (by omega)
      have t4 := hrow.cell (i := k * 6 + 4) (by omega)
      have t5 := hrow.cell (i := k * 6 + 5) (by omega)
      have r0 := hrow.frozen (k * 6)
      have r1 := hrow.frozen (k * 6 + 1)
      have r2 := hrow.frozen (k * 6 + 2)
      have r3 := hrow.frozen (k * 6 + 3)
      have r4 := hrow.frozen (k * 6 + 4)
      have r5 := hrow.frozen (k * 6 + 5)
      have i1 : (k : Int) < (n : Int) := by omega
      have BEL := hide hbel
      have ROW := hide hrow
      have HF := hide hf
      clear e0 e1 e2 e3 e4 e5 hbel hrow hf
      go_wp2
      go_region
      have ROW1 := hide ((rowIs_put6 (unhide ROW) (k * 6) (.int .u8 (dd k)) (.string (ss k)) (.bool (bb k)) (.int .u64 (vv k)) (.int .i64 (cc k)) (.int .i64 (rr k))).drew)
      have BEL1 := hide ((((((((unhide BEL).setCell (p := ⟨B, k * 6, none⟩) (Nat.le_refl _) (.int .u8 (dd k))).setCell (p := ⟨B, k * 6 + 1, none⟩) (Nat.le_refl _) (.string (ss k))).setCell (p := ⟨B, k * 6 + 2, none⟩) (Nat.le_refl _) (.bool (bb k))).setCell (p := ⟨B, k * 6 + 3, none⟩) (Nat.le_refl _) (.int .u64 (vv k))).setCell (p := ⟨B, k * 6 + 4, none⟩) (Nat.le_refl _) (.int .i64 (cc k))).setCell (p := ⟨B, k * 6 + 5, none⟩) (Nat.le_refl _) (.int .i64 (rr k))).drew)
      clear d0 d1 d2 d3 d4 d5 t0 t1 t2 t3 t4 t5 r0 r1 r2 r3 r4 r5
      go_wp2
      go_roundw
      case rel => exact ⟨k + 1, _, by omega, by go_num, unhide ROW1, (unhide HF).step, unhide BEL1⟩
      case measure => simp [intOf]; omega
    · obtain rfl : n = k := by omega
      have HO : OpsAt wr B n dd ss bb vv cc rr := by
        intro i hi
        obtain ⟨q0, q1, q2, q3, q4, q5⟩ := hf i hi
        rw [← q0, ← q1, ← q2, ← q3, ← q4, ← q5]
        exact ⟨hrow.cell (by omega), hrow.cell (by omega), hrow.cell (by omega), hrow.cell (by omega), hrow.cell (by omega), hrow.cell (by omega)⟩
      have HC := hide (writers26 dd ss bb vv cc rr B n n wr hn (unhide HS) HO)
      have HBEL := hide hbel
      clear HO hrow hf hbel
      go_wp2_with fail
      refine (unhide HC).mono ?_
      rintro e w1 ⟨rfl, hb1, hown, hz⟩
      have HB1 := hide hb1
      have HOWN := hide hown
      have HZ := hide hz
      clear hb1 hown hz
      go_wp2
      go_ret
      exact ⟨wr.heap.size, rfl, by rw [← unhide HB]; exact (unhide HBEL).trans ((unhide HB1).mono (by rw [unhide HB]; exact (unhide HBEL).size)), unhide HOWN, unhide HZ⟩

end Go.Proofs.Qxb6601795a.Wr
