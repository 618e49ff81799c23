/-
  FnWritersCountTable: writers and ZZWriters.
-/
import Derived.Test.Qxb6601795aWrA
import Derived.Maps.Own
namespace Go.Proofs.Qxb6601795a.Wr
open Go.RowKit Go.Maps

/-- The operations as they lie in memory, six cells each. -/
def OpsAt (w : World) (g n : Nat) (dd : Nat → Int) (ss : Nat → ByteArray) (bb : Nat → Bool) (vv cc rr : Nat → Int) : Prop :=
  ∀ i, i < n → w.cell? ⟨g, i * 6, none⟩ = some (.int .u8 (dd i)) ∧ w.cell? ⟨g, i * 6 + 1, none⟩ = some (.string (ss i)) ∧ w.cell? ⟨g, i * 6 + 2, none⟩ = some (.bool (bb i)) ∧
    w.cell? ⟨g, i * 6 + 3, none⟩ = some (.int .u64 (vv i)) ∧ w.cell? ⟨g, i * 6 + 4, none⟩ = some (.int .i64 (cc i)) ∧ w.cell? ⟨g, i * 6 + 5, none⟩ = some (.int .i64 (rr i))

theorem below_put {w wr w1 : World} {B : Nat} {o1 o2 : Obj} (h : Below B w wr) (hB : B < wr.heap.size) (hg : ((wr.alloc o1).alloc o2).grownBy w1 (some B)) : Below B w w1 :=
  ((h.alloc (by omega) o1).alloc (by simp; omega) o2).grown hg (by simp; omega) (fun k hk => by simp at hk; omega)

set_option maxHeartbeats 2000000 in
theorem writers26 (dd : Nat → Int) (ss : Nat → ByteArray) (bb : Nat → Bool) (vv cc rr : Nat → Int) (g n c : Nat) (w : World) (hn : n ≤ 4096) (hs : ∀ i, i < n → (ss i).size ≤ maxLen) (hO : OpsAt w g n dd ss bb vv cc rr) :
    Calls Try.prog 26 #[.slice (some ⟨g, 0, none⟩) n c] w fun e w' => e = .returned (.map (some w.heap.size)) ∧ Below w.heap.size w w' ∧ w'.ownsMap Try.prog 54 (plainElem Try.prog 3) w.heap.size n (dJ dd ss bb n) ∧ Maps.size (dJ dd ss bb n) = zJ dd ss bb n := by
  have hmm := @run_makeMap Try.prog
  have HO := hide hO
  have HS := hide hs
  clear hO hs
  go_enter Try.func26, Try.ntmps26
  go_wp2
  clear hmm
  obtain ⟨B, hB⟩ : ∃ B, B = w.heap.size := ⟨_, rfl⟩
  rw [← hB]
  have HB := hide hB
  have M0 := hide (World.ownsMap_made (H := Unit) w Try.prog 54 (plainElem Try.prog 3))
  rw [← hB] at M0
  have BL0 : Hid (Below B w (w.alloc (.map #[] 0))) := (Below.refl _ _).alloc (by omega) _
  clear hB
  go_loopw [11] (fun i wr => ∃ k : Nat, k ≤ n ∧ i = .int .i64 k ∧ wr.ownsMap Try.prog 54 (plainElem Try.prog 3) B k (dJ dd ss bb k) ∧ Maps.size (dJ dd ss bb k) = zJ dd ss bb k ∧ Below B w wr) (fun i _ => n - (intOf i).toNat)
  case atStart => exact ⟨0, by omega, rfl, unhide M0, rfl, unhide BL0⟩
  case round =>
    clear M0 BL0
    obtain ⟨k, hk, rfl, hown, hz, hbel⟩ := hrel
    by_cases hlt : k < n
    · obtain ⟨e0, e1, e2, e3, e4, e5⟩ := unhide HO k hlt
      have hgB : g < B := by rw [unhide HB]; exact World.block_lt_of_cell? w _ e0
      have d0 : wr.cell? ⟨g, k * 6, none⟩ = some (.int .u8 (dd k)) := (hbel.cell (p := ⟨g, k * 6, none⟩) hgB).trans e0
      have d1 : wr.cell? ⟨g, k * 6 + 1, none⟩ = some (.string (ss k)) := (hbel.cell (p := ⟨g, k * 6 + 1, none⟩) hgB).trans e1
      have d2 : wr.cell? ⟨g, k * 6 + 2, none⟩ = some (.bool (bb k)) := (hbel.cell (p := ⟨g, k * 6 + 2, none⟩) hgB).trans e2
      have d3 : wr.cell? ⟨g, k * 6 + 3, none⟩ = some (.int .u64 (vv k)) := (hbel.cell (p := ⟨g, k * 6 + 3, none⟩) hgB).trans e3
      have d4 : wr.cell? ⟨g, k * 6 + 4, none⟩ = some (.int .i64 (cc k)) := (hbel.cell (p := ⟨g, k * 6 + 4, none⟩) hgB).trans e4
      have d5 : wr.cell? ⟨g, k * 6 + 5, none⟩ = some (.int .i64 (rr k)) := (hbel.cell (p := ⟨g, k * 6 + 5, none⟩) hgB).trans e5
      clear e0 e1 e2 e3 e4 e5
      have i1 : (k : Int) < (n : Int) := by omega
      have hsk := unhide HS k hlt
      have HZ := hide (size_step (unhide HS) hlt (hown.tidy law54) hz)
      have HBEL := hide hbel
      have HOWN := hide hown
      have hBw : B < wr.heap.size := hown.lt
      clear hz hbel hown
      cases hw : wB (dd k)
      · have HD := hide (show dJ dd ss bb (k + 1) = dJ dd ss bb k by rw [dJ, if_neg (by rw [hw]; simp)])
        cases hh : Maps.has (dJ dd ss bb k) (rk (ss k) (bb k))
        · go_wp2_with (first
            | (at_lookup; refine wpList_lookup_own_ok_int _ rfl _ _ 44 rfl 54 3 .i64 law54 Try.underlying44 Try.underlying3 (zero3 _) B k _ rfl ((unhide HOWN).alloc _) _ _ rfl (key54 (ss k) (bb k) hsk) ?_; intro c' hat hwc; clear hat hwc)
            | (go_at_call 27; refine (writes27 _ _ _ _ _).mono ?_; rintro e w1 ⟨rfl, hw1⟩; rw [hw1]; clear hw1 w1))
          clear d0 d1 d2 d3 d4 d5
          go_roundw
          case rel => exact ⟨k + 1, by omega, by go_num, by rw [unhide HD]; exact (((unhide HOWN).alloc _).alloc _).mono (by omega), unhide HZ, (((unhide HBEL).alloc (by first | omega | (simp; omega)) _).alloc (by first | omega | (simp; omega)) _)⟩
          case measure => simp [intOf]; omega
        · go_wp2_with (first
            | (at_lookup; refine wpList_lookup_own_ok_int _ rfl _ _ 44 rfl 54 3 .i64 law54 Try.underlying44 Try.underlying3 (zero3 _) B k _ rfl ((unhide HOWN).alloc _) _ _ rfl (key54 (ss k) (bb k) hsk) ?_; intro c' hat hwc; clear hat hwc)
            | (go_at_call 27; refine (writes27 _ _ _ _ _).mono ?_; rintro e w1 ⟨rfl, hw1⟩; rw [hw1]; clear hw1 w1))
          clear d0 d1 d2 d3 d4 d5
          go_roundw
          case rel => exact ⟨k + 1, by omega, by go_num, by rw [unhide HD]; exact ((((unhide HOWN).alloc _).alloc _).alloc _).mono (by omega), unhide HZ, ((((unhide HBEL).alloc (by first | omega | (simp; omega)) _).alloc (by first | omega | (simp; omega)) _).alloc (by first | omega | (simp; omega)) _)⟩
          case measure => simp [intOf]; omega
      · cases hh : Maps.has (dJ dd ss bb k) (rk (ss k) (bb k))
        · have HD := hide (show dJ dd ss bb (k + 1) = (dJ dd ss bb k).put (rk (ss k) (bb k)) (.lit (.int .i64 (k : Int))) by rw [dJ, if_pos hw, hh]; rfl)
          go_wp2_with (first
            | (at_lookup; refine wpList_lookup_own_ok_int _ rfl _ _ 44 rfl 54 3 .i64 law54 Try.underlying44 Try.underlying3 (zero3 _) B k _ rfl ((unhide HOWN).alloc _) _ _ rfl (key54 (ss k) (bb k) hsk) ?_; intro c' hat hwc; clear hat hwc)
            | (go_at_call 27; refine (writes27 _ _ _ _ _).mono ?_; rintro e w1 ⟨rfl, hw1⟩; rw [hw1]; clear hw1 w1)
            | (at_mapUpdate; refine wpList_mapUpdate_own _ rfl _ _ _ 44 rfl 54 3 law54 Try.underlying44 _ B k _ rfl (((unhide HOWN).alloc _).alloc _) (by unfold maxLen; omega) _ _ _ rfl rfl (key54 (ss k) (bb k) hsk) _ [] (plainElem_int Try.underlying3 (WalkArith.wf_i64 (by omega))) ?_; intro w1 hown1 hgrow1))
          have BL1 := hide (below_put (unhide HBEL) hBw hgrow1)
          have OW1 := hide hown1
          clear hgrow1 hown1 HBEL HOWN d0 d1 d2 d3 d4 d5
          go_wp2
          go_roundw
          case rel => exact ⟨k + 1, by omega, by go_num, by rw [unhide HD]; exact unhide OW1, unhide HZ, unhide BL1⟩
          case measure => simp [intOf]; omega
        · have HD := hide (show dJ dd ss bb (k + 1) = (dJ dd ss bb k).put (rk (ss k) (bb k)) (.lit (.int .i64 (-1))) by rw [dJ, if_pos hw, hh]; rfl)
          go_wp2_with (first
            | (at_lookup; refine wpList_lookup_own_ok_int _ rfl _ _ 44 rfl 54 3 .i64 law54 Try.underlying44 Try.underlying3 (zero3 _) B k _ rfl ((unhide HOWN).alloc _) _ _ rfl (key54 (ss k) (bb k) hsk) ?_; intro c' hat hwc; clear hat hwc)
            | (go_at_call 27; refine (writes27 _ _ _ _ _).mono ?_; rintro e w1 ⟨rfl, hw1⟩; rw [hw1]; clear hw1 w1)
            | (at_mapUpdate; refine wpList_mapUpdate_own _ rfl _ _ _ 44 rfl 54 3 law54 Try.underlying44 _ B k _ rfl (((unhide HOWN).alloc _).alloc _) (by unfold maxLen; omega) _ _ _ rfl rfl (key54 (ss k) (bb k) hsk) _ [] (plainElem_int Try.underlying3 (by decide)) ?_; intro w1 hown1 hgrow1))
          have BL1 := hide (below_put (unhide HBEL) hBw hgrow1)
          have OW1 := hide hown1
          clear hgrow1 hown1 HBEL HOWN d0 d1 d2 d3 d4 d5
          go_wp2
          go_roundw
          case rel => exact ⟨k + 1, by omega, by go_num, by rw [unhide HD]; exact unhide OW1, unhide HZ, unhide BL1⟩
          case measure => simp [intOf]; omega
    · obtain rfl : n = k := by omega
      go_wp2
      go_ret
      exact ⟨by rw [← unhide HB]; rfl, by rw [← unhide HB]; exact hbel, by rw [← unhide HB]; exact hown, hz⟩

end Go.Proofs.Qxb6601795a.Wr
