/-
  FnWritersCountTable: the law's walk.
-/
import Derived.Test.Qxb6601795aWrC
import Derived.Test.Qxb6601795aWrD
import Derived.Test.Qxb6601795aWrE
import Derived.Deep.RegionHeld3
namespace Go.Proofs.Qxb6601795a.Wr
open Go.RowKit Go.Maps

theorem zJ_le (dd : Nat → Int) (ss : Nat → ByteArray) (bb : Nat → Bool) : ∀ k, zJ dd ss bb k ≤ k
  | 0 => Nat.le_refl _
  | k + 1 => by
    have := zJ_le dd ss bb k
    unfold zJ
    split <;> omega

def Holds6 (w : World) (e : Ending) (w' : World) : Prop := e = .returned (.bool true) ∧ Below w.heap.size w w'

set_option maxRecDepth 100000 in
set_option maxHeartbeats 4000000 in
theorem law6 (dd : Nat → Int) (ss : Nat → ByteArray) (bb : Nat → Bool) (vv cc rr : Nat → Int) (a0 a1 a2 a3 a4 a5 : Option Addr) (l0 l1 l2 l3 l4 l5 c0 c1 c2 c3 c4 c5 : Nat) (q : ByteArray) (p : Bool) (w : World)
    (b0 : l0 ≤ maxLen) (b1 : l1 ≤ maxLen) (b2 : l2 ≤ maxLen) (b3 : l3 ≤ maxLen) (b4 : l4 ≤ maxLen) (b5 : l5 ≤ maxLen) (hq : q.size ≤ maxLen) (hs : ∀ i, i < l1 → (ss i).size ≤ maxLen)
    (h0 : AtV w a0 l0 (fun i => .int .u8 (dd i))) (h1 : AtV w a1 l1 (fun i => .string (ss i))) (h2 : AtV w a2 l2 (fun i => .bool (bb i)))
    (h3 : AtV w a3 l3 (fun i => .int .u64 (vv i))) (h4 : AtV w a4 l4 (fun i => .int .i64 (cc i))) (h5 : AtV w a5 l5 (fun i => .int .i64 (rr i)))
    (n0 : a0 = none → l0 = 0 ∧ c0 = 0) (n1 : a1 = none → l1 = 0 ∧ c1 = 0) (n2 : a2 = none → l2 = 0 ∧ c2 = 0) (n3 : a3 = none → l3 = 0 ∧ c3 = 0) (n4 : a4 = none → l4 = 0 ∧ c4 = 0) (n5 : a5 = none → l5 = 0 ∧ c5 = 0) :
    Calls Try.prog 6 #[.slice a0 l0 c0, .slice a1 l1 c1, .slice a2 l2 c2, .slice a3 l3 c3, .slice a4 l4 c4, .slice a5 l5 c5, .string q, .bool p] w (Holds6 w) := by
  have HC13 := hide (bytes13 ss a0 a1 a2 a3 a4 a5 l0 l1 l2 l3 l4 l5 c0 c1 c2 c3 c4 c5 q p w b0 b1 b2 b3 b4 b5 hq hs h1)
  have H0 := hide h0
  have H1 := hide h1
  have H2 := hide h2
  have H3 := hide h3
  have H4 := hide h4
  have H5 := hide h5
  have HS := hide hs
  have HQ := hide hq
  have N0 := hide n0
  have N1 := hide n1
  have N2 := hide n2
  have N3 := hide n3
  have N4 := hide n4
  have N5 := hide n5
  clear h0 h1 h2 h3 h4 h5 hs hq n0 n1 n2 n3 n4 n5 b0 b1 b2 b3 b4 b5
  go_enter Try.func6, Try.ntmps6
  go_wp2_with fail
  refine (unhide HC13).mono ?_
  rintro e w1 ⟨r, rfl, hw⟩
  rw [hw]
  clear hw w1 HC13
  cases r
  · go_wp2
    go_ret
    exact ⟨rfl, Below.refl _ _⟩
  by_cases x0 : 4096 < l0
  · go_wp2
    go_ret
    exact ⟨rfl, Below.refl _ _⟩
  by_cases x1 : 4096 < l1
  · go_wp2
    go_ret
    exact ⟨rfl, Below.refl _ _⟩
  by_cases x2 : 4096 < l2
  · go_wp2
    go_ret
    exact ⟨rfl, Below.refl _ _⟩
  by_cases x3 : 4096 < l3
  · go_wp2
    go_ret
    exact ⟨rfl, Below.refl _ _⟩
  by_cases x4 : 4096 < l4
  · go_wp2
    go_ret
    exact ⟨rfl, Below.refl _ _⟩
  by_cases x5 : 4096 < l5
  · go_wp2
    go_ret
    exact ⟨rfl, Below.refl _ _⟩
  go_wp2
  go_loop [17, 18] (fun s i => ∃ (k : Nat) (x : Int), k ≤ l1 ∧ i = .int .i64 k ∧ s = .int .i64 x) (fun _ i => l1 - (intOf i).toNat)
  case atStart => exact ⟨0, _, by omega, rfl, rfl⟩
  case round =>
    obtain ⟨k, x, hk, rfl, rfl⟩ := hrel
    by_cases hlt : k < l1
    · obtain ⟨g, o, rfl, e1, _⟩ := (unhide H1).get hlt
      have i1 : (k : Int) < (l1 : Int) := by omega
      obtain ⟨y, hy⟩ : ∃ y, IntKind.i64.wrap (x + ((ss k).size : Int)) = y := ⟨_, rfl⟩
      by_cases y1 : 1048576 < y
      · go_wp2
        go_ret
        exact ⟨rfl, Below.refl _ _⟩
      · go_wp2
        go_round
        case rel => exact ⟨k + 1, y, by omega, by go_num, by first | rfl | rw [hy]⟩
        case measure => simp [intOf]; omega
    · obtain rfl : l1 = k := by omega
      by_cases y1 : 1048576 < x
      · go_wp2
        go_ret
        exact ⟨rfl, Below.refl _ _⟩
      by_cases z1 : l1 = l0
      rotate_left
      · go_wp2
        go_ret
        exact ⟨rfl, Below.refl _ _⟩
      by_cases z2 : l2 = l0
      rotate_left
      · go_wp2
        go_ret
        exact ⟨rfl, Below.refl _ _⟩
      by_cases z3 : l3 = l0
      rotate_left
      · go_wp2
        go_ret
        exact ⟨rfl, Below.refl _ _⟩
      by_cases z4 : l4 = l0
      rotate_left
      · go_wp2
        go_ret
        exact ⟨rfl, Below.refl _ _⟩
      by_cases z5 : l5 = l0
      rotate_left
      · go_wp2
        go_ret
        exact ⟨rfl, Below.refl _ _⟩
      subst l1
      subst l2
      subst l3
      subst l4
      subst l5
      have hn : l0 ≤ 4096 := by omega
      clear x0 x1 x2 x3 x4 x5 hlt hk
      go_wp2_with fail
      refine (copy14 a0 l0 c0 dd w hn (unhide H0) (unhide N0)).mono ?_
      rintro e w1 ⟨a0', c0', rfl, A0, B1⟩
      have A0 := hide A0
      have B1 := hide B1
      have H1 := hide ((unhide H1).later (unhide B1))
      have H2 := hide ((unhide H2).later (unhide B1))
      have H3 := hide ((unhide H3).later (unhide B1))
      have H4 := hide ((unhide H4).later (unhide B1))
      have H5 := hide ((unhide H5).later (unhide B1))
      go_wp2_with fail
      refine (copy15 a1 l0 c1 ss w1 hn (unhide H1) (unhide N1)).mono ?_
      rintro e w2 ⟨a1', c1', rfl, A1, B2⟩
      have A1 := hide A1
      have A0 := hide ((unhide A0).later B2)
      have H2 := hide ((unhide H2).later B2)
      have H3 := hide ((unhide H3).later B2)
      have H4 := hide ((unhide H4).later B2)
      have H5 := hide ((unhide H5).later B2)
      have B2 := hide ((unhide B1).trans (B2.mono (unhide B1).size))
      go_wp2_with fail
      refine (copy16 a2 l0 c2 bb w2 hn (unhide H2) (unhide N2)).mono ?_
      rintro e w3 ⟨a2', c2', rfl, A2, B3⟩
      have A2 := hide A2
      have A0 := hide ((unhide A0).later B3)
      have A1 := hide ((unhide A1).later B3)
      have H3 := hide ((unhide H3).later B3)
      have H4 := hide ((unhide H4).later B3)
      have H5 := hide ((unhide H5).later B3)
      have B3 := hide ((unhide B2).trans (B3.mono (unhide B2).size))
      go_wp2_with fail
      refine (copy17 a3 l0 c3 vv w3 hn (unhide H3) (unhide N3)).mono ?_
      rintro e w4 ⟨a3', c3', rfl, A3, B4⟩
      have A3 := hide A3
      have A0 := hide ((unhide A0).later B4)
      have A1 := hide ((unhide A1).later B4)
      have A2 := hide ((unhide A2).later B4)
      have H4 := hide ((unhide H4).later B4)
      have H5 := hide ((unhide H5).later B4)
      have B4 := hide ((unhide B3).trans (B4.mono (unhide B3).size))
      go_wp2_with fail
      refine (copy18 a4 l0 c4 cc w4 hn (unhide H4) (unhide N4)).mono ?_
      rintro e w5 ⟨a4', c4', rfl, A4, B5⟩
      have A4 := hide A4
      have A0 := hide ((unhide A0).later B5)
      have A1 := hide ((unhide A1).later B5)
      have A2 := hide ((unhide A2).later B5)
      have A3 := hide ((unhide A3).later B5)
      have H5 := hide ((unhide H5).later B5)
      have B5 := hide ((unhide B4).trans (B5.mono (unhide B4).size))
      go_wp2_with fail
      refine (copy18 a5 l0 c5 rr w5 hn (unhide H5) (unhide N5)).mono ?_
      rintro e w6 ⟨a5', c5', rfl, A5, B6⟩
      have A5 := hide A5
      have A0 := hide ((unhide A0).later B6)
      have A1 := hide ((unhide A1).later B6)
      have A2 := hide ((unhide A2).later B6)
      have A3 := hide ((unhide A3).later B6)
      have A4 := hide ((unhide A4).later B6)
      have B6 := hide ((unhide B5).trans (B6.mono (unhide B5).size))
      go_wp2_with fail
      refine (writers19 dd ss bb vv cc rr a0' a1' a2' a3' a4' a5' l0 c0' c1' c2' c3' c4' c5' w6 hn (unhide HS) (unhide A0) (unhide A1) (unhide A2) (unhide A3) (unhide A4) (unhide A5)).mono ?_
      rintro e W ⟨B, rfl, B7, OW, SZ⟩
      have A0 := hide ((unhide A0).later B7)
      have A1 := hide ((unhide A1).later B7)
      have A2 := hide ((unhide A2).later B7)
      have BW := hide ((unhide B6).trans (B7.mono (unhide B6).size))
      have OW := hide OW
      have SZ := hide SZ
      clear A3 A4 A5 B1 B2 B3 B4 B5 B6 H0 H1 H2 H3 H4 H5 N0 N1 N2 N3 N4 N5
      clear B7
      go_wp2
      go_loopw [21, 22] (fun d i wr => ∃ k : Nat, k ≤ l0 ∧ i = .int .i64 k ∧ d = .int .i64 (zJ dd ss bb k : Nat) ∧ ∃ m, wr = W.drewN m) (fun _ i _ => l0 - (intOf i).toNat)
      case atStart => exact ⟨0, by omega, rfl, rfl, 0, rfl⟩
      case round =>
        obtain ⟨k, hk, rfl, rfl, m, hwr⟩ := hrel
        have hzk := zJ_le dd ss bb k
        by_cases hlt : k < l0
        · have A0' : AtV wr a0' l0 (fun i => .int .u8 (dd i)) := by rw [hwr]; exact (unhide A0).later (below_drewN (Below.refl _ _) m)
          have A1' : AtV wr a1' l0 (fun i => .string (ss i)) := by rw [hwr]; exact (unhide A1).later (below_drewN (Below.refl _ _) m)
          have A2' : AtV wr a2' l0 (fun i => .bool (bb i)) := by rw [hwr]; exact (unhide A2).later (below_drewN (Below.refl _ _) m)
          have HC := hide (first21 dd ss bb a0' a1' a2' l0 c0' c1' c2' k wr hn hlt A0' A1' A2')
          obtain ⟨g0, o0, rfl, e0, _⟩ := A0'.get hlt
          clear A0' A1' A2'
          have HWR := hide hwr
          clear hwr
          have i1 : (k : Int) < (l0 : Int) := by omega
          cases hw : wB (dd k)
          · have HZ := hide (show zJ dd ss bb (k + 1) = zJ dd ss bb k by simp [zJ, hw])
            go_wp2_with (go_at_call 20; refine (writes20c _ _ _ hw).mono ?_; rintro e v1 ⟨rfl, hv1⟩; rw [hv1]; clear hv1 v1)
            go_roundw
            case rel => exact ⟨k + 1, by omega, by go_num, by rw [unhide HZ], m, unhide HWR⟩
            case measure => simp [intOf]; omega
          · cases hf : fwB dd ss bb k
            · have HZ := hide (show zJ dd ss bb (k + 1) = zJ dd ss bb k by simp only [fwB] at hf; simp [zJ, hf])
              rw [hf] at HC
              go_wp2_with (first
                | (go_at_call 20; refine (writes20c _ _ _ hw).mono ?_; rintro e v1 ⟨rfl, hv1⟩; rw [hv1]; clear hv1 v1)
                | (go_at_call 21; refine (unhide HC).mono ?_; rintro e v1 ⟨rfl, m1, hv1⟩; rw [hv1]; clear hv1 v1))
              go_roundw
              case rel => exact ⟨k + 1, by omega, by go_num, by rw [unhide HZ], m + m1, by rw [unhide HWR]; exact World.drewN_drewN ..⟩
              case measure => simp [intOf]; omega
            · have HZ := hide (show zJ dd ss bb (k + 1) = zJ dd ss bb k + 1 by simp only [fwB] at hf; simp [zJ, hf, hw])
              rw [hf] at HC
              go_wp2_with (first
                | (go_at_call 20; refine (writes20c _ _ _ hw).mono ?_; rintro e v1 ⟨rfl, hv1⟩; rw [hv1]; clear hv1 v1)
                | (go_at_call 21; refine (unhide HC).mono ?_; rintro e v1 ⟨rfl, m1, hv1⟩; rw [hv1]; clear hv1 v1))
              go_roundw
              case rel => exact ⟨k + 1, by omega, by go_num, by rw [unhide HZ]; go_num, m + m1, by rw [unhide HWR]; exact World.drewN_drewN ..⟩
              case measure => simp [intOf]; omega
        · obtain rfl : l0 = k := by omega
          have HWR := hide hwr
          have OWr : Hid (wr.ownsMap Try.prog 54 (plainElem Try.prog 3) B l0 (dJ dd ss bb l0)) := by rw [hwr]; exact unhide OW
          have hsz := unhide SZ
          clear hwr hlt hk
          go_wp2_with (at_len; refine wpList_len_own _ rfl _ 44 rfl 54 3 Try.underlying44 _ B l0 (dJ dd ss bb l0) rfl (unhide OWr) ?_; rw [hsz])
          clear hsz
          go_loopw [23] (fun i wr => ∃ k : Nat, k ≤ l0 ∧ i = .int .i64 k ∧ ∃ m, wr = W.drewN m) (fun i _ => l0 - (intOf i).toNat)
          case atStart => exact ⟨0, by omega, rfl, m, unhide HWR⟩
          case round =>
            obtain ⟨k, hk, rfl, m2, hwv⟩ := hrel
            have OV : wr.ownsMap Try.prog 54 (plainElem Try.prog 3) B l0 (dJ dd ss bb l0) := by rw [hwv]; exact unhide OW
            have A0' : AtV wr a0' l0 (fun i => .int .u8 (dd i)) := by rw [hwv]; exact (unhide A0).later (below_drewN (Below.refl _ _) m2)
            have A1' : AtV wr a1' l0 (fun i => .string (ss i)) := by rw [hwv]; exact (unhide A1).later (below_drewN (Below.refl _ _) m2)
            have A2' : AtV wr a2' l0 (fun i => .bool (bb i)) := by rw [hwv]; exact (unhide A2).later (below_drewN (Below.refl _ _) m2)
            have BV : Hid (Below w.heap.size w wr) := by rw [hwv]; exact below_drewN (unhide BW) m2
            have HWV := hide hwv
            clear hwv
            by_cases hlt : k < l0
            · have i1 : (k : Int) < (l0 : Int) := by omega
              have hsk := unhide HS k hlt
              obtain ⟨t1, t2⟩ := table (dd := dd) (ss := ss) (bb := bb) (unhide HS) (ss k) (bb k) hsk l0 (Nat.le_refl _)
              obtain ⟨x', hx'⟩ : ∃ x', mv (cJ dd ss bb (ss k) (bb k) l0) (aJ dd ss bb (ss k) (bb k) l0) = x' := ⟨_, rfl⟩
              obtain ⟨b', hb'⟩ : ∃ b', decide (0 < cJ dd ss bb (ss k) (bb k) l0) = b' := ⟨_, rfl⟩
              have HC22 : Hid (∀ m3, Calls Try.prog 22 #[.map (some B), .string (ss k), .bool (bb k)] (wr.drewN m3) fun e w' => e = .returned (.tuple #[.int .i64 x', .bool b']) ∧ w' = wr.drewN m3) := fun m3 => writerOf22 (dJ dd ss bb l0) B l0 (ss k) (bb k) x' b' (wr.drewN m3) hsk (by exact OV) (by rw [t2, hx']) (by rw [t1, hb'])
              have HC23 : Hid (∀ m3, Calls Try.prog 23 #[.slice a0' l0 c0', .slice a1' l0 c1', .slice a2' l0 c2', .string (ss k), .bool (bb k)] (wr.drewN m3) fun e w' => e = .returned (.tuple #[.int .i64 x', .bool b']) ∧ w' = wr.drewN m3) := fun m3 => by
                have := model23 dd ss bb a0' a1' a2' l0 c0' c1' c2' (ss k) (bb k) (wr.drewN m3) hn (A0'.later (below_drewN (Below.refl _ _) m3)) (A1'.later (below_drewN (Below.refl _ _) m3)) (A2'.later (below_drewN (Below.refl _ _) m3))
                rw [hx', hb'] at this
                exact this
              clear hx' hb' t1 t2
              obtain ⟨g1, o1, rfl, e1, _⟩ := A1'.get hlt
              obtain ⟨g2, o2, rfl, e2, _⟩ := A2'.get hlt
              clear A0' A1' A2' OV hsk
              go_wp2_with fail
              go_quiet ((go_at_call 22; exact Calls.quiet_of_same (unhide HC22 _)))
              obtain ⟨W2, hW2⟩ : ∃ W2, W2 = wr.drewN nq := ⟨_, rfl⟩
              have HC23' : Hid (∀ m3, Calls Try.prog 23 #[.slice a0' l0 c0', .slice (some ⟨g1, o1, none⟩) l0 c1', .slice (some ⟨g2, o2, none⟩) l0 c2', .string (ss k), .bool (bb k)] (W2.drewN m3) fun e w' => e = .returned (.tuple #[.int .i64 x', .bool b']) ∧ w' = W2.drewN m3) := fun m3 => by
                rw [hW2, World.drewN_drewN]
                exact unhide HC23 _
              have e1' : W2.cell? ⟨g1, o1 + k, none⟩ = some (.string (ss k)) := by rw [hW2]; exact e1
              have e2' : W2.cell? ⟨g2, o2 + k, none⟩ = some (.bool (bb k)) := by rw [hW2]; exact e2
              rw [← hW2]
              have HW2 : Hid (∃ m9, W2 = wr.drewN m9) := ⟨nq, hW2⟩
              clear hW2 HC23 HC22 e1 e2
              go_wp2_with fail
              go_quiet ((go_at_call 23; exact Calls.quiet_of_same (unhide HC23' _)))
              clear e1' e2' HC23'
              go_wp2_with fail
              go_roundw
              case rel =>
                obtain ⟨m9, h9⟩ := unhide HW2
                exact ⟨k + 1, by omega, by go_num, m2 + (m9 + nq), by rw [h9, unhide HWV, World.drewN_drewN, World.drewN_drewN]⟩
              case measure => simp [intOf]; omega
            · obtain rfl : l0 = k := by omega
              obtain ⟨t1, t2⟩ := table (dd := dd) (ss := ss) (bb := bb) (unhide HS) q p (unhide HQ) l0 (Nat.le_refl _)
              obtain ⟨x', hx'⟩ : ∃ x', mv (cJ dd ss bb q p l0) (aJ dd ss bb q p l0) = x' := ⟨_, rfl⟩
              obtain ⟨b', hb'⟩ : ∃ b', decide (0 < cJ dd ss bb q p l0) = b' := ⟨_, rfl⟩
              have HC22 := hide (writerOf22 (dJ dd ss bb l0) B l0 q p x' b' wr (unhide HQ) OV (by rw [t2, hx']) (by rw [t1, hb']))
              have HC23 := hide (model23 dd ss bb a0' a1' a2' l0 c0' c1' c2' q p wr hn A0' A1' A2')
              rw [hx', hb'] at HC23
              clear hx' hb' t1 t2 A0' A1' A2' OV
              go_wp2_with (first
                | (go_at_call 22; refine (unhide HC22).mono ?_; rintro e v1 ⟨rfl, hv1⟩; rw [hv1]; clear hv1 v1)
                | (go_at_call 23; refine (unhide HC23).mono ?_; rintro e v1 ⟨rfl, hv1⟩; rw [hv1]; clear hv1 v1))
              go_ret
              exact ⟨rfl, unhide BV⟩

end Go.Proofs.Qxb6601795a.Wr
