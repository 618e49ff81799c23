/-
  FnStoreFreeSetKeepsBlockMaxima: the walk.
-/
import Derived.Test.Qxb6600149aSfE
namespace Go.Proofs.Qxb6600149a.Sf
open Go.RowKit

theorem isMax_one {T : Nat → Int} {n b : Nat} {m m' : Int} (h : IsMax T n b m) (h' : IsMax T n b m') : m = m' := by
  obtain ⟨⟨j, a1, a2, a3, a4⟩, hall⟩ := h
  obtain ⟨⟨i, b1, b2, b3, b4⟩, hall'⟩ := h'
  have := hall i b1 b2 b3
  have := hall' j a1 a2 a3
  omega

theorem great_step {T : Nat → Int} {lo j : Nat} {m : Int} (h : Great T lo (j - lo) m) (hj : lo < j) : Great T lo (j + 1 - lo) (if m < T j then T j else m) := by
  have := great_snoc h
  rw [show lo + (j - lo) = j by omega] at this
  rw [show j + 1 - lo = j - lo + 1 by omega]
  exact this

set_option maxHeartbeats 1000000 in
theorem shape22 (s n : Nat) (vt vm vs : Value) (T M S : Nat → Int) (R : Int) (w : World) (hst : St w s vt vm vs n (nbl n) (nbl n) T M S R) (hn : n ≤ 65536) :
    Calls Try.prog 22 #[.pointer (some ⟨s, 0, none⟩), .int .i64 n] w fun e w' => e = .returned (.bool true) ∧ w' = w := by
  obtain ⟨at1, ct1, rfl, _⟩ := hst.viewT
  obtain ⟨am1, cm1, rfl, _⟩ := hst.viewM
  obtain ⟨as1, cs1, rfl, _⟩ := hst.viewS
  have c0 := hst.c0
  have c1 := hst.c1
  have c2 := hst.c2
  have en : ((n : Int) + 256 - 1) / 256 = ((nbl n : Nat) : Int) := by unfold nbl; omega
  clear hst
  go_enter Try.func22, Try.ntmps22
  go_wp2_with (first
    | (go_at_call 26; refine (takes26 _ _ _ c0).mono ?_; rintro e w1 ⟨rfl, hw⟩; rw [hw]; clear hw w1)
    | (go_at_call 24; refine (most24 _ _ _ c1).mono ?_; rintro e w1 ⟨rfl, hw⟩; rw [hw]; clear hw w1)
    | (go_at_call 27; refine (sets27 _ _ _ c2).mono ?_; rintro e w1 ⟨rfl, hw⟩; rw [hw]; clear hw w1))
  go_ret
  exact ⟨by simp, rfl⟩

set_option maxRecDepth 100000 in
set_option maxHeartbeats 1000000 in
theorem max23 (s n b : Nat) (vt vm vs : Value) (T M S : Nat → Int) (R : Int) (w : World) (hst : St w s vt vm vs n (nbl n) (nbl n) T M S R) (hM : Marks T n M) (hn : n ≤ 65536) (hb : b < nbl n) :
    Calls Try.prog 23 #[.pointer (some ⟨s, 0, none⟩), .int .i64 b] w fun e w' => e = .returned (.bool true) ∧ w' = w := by
  have hb0 : b * 256 < n := by unfold nbl at hb; omega
  obtain ⟨gt, ct, rfl, hgt, hct, hctm⟩ := hst.formT (by omega)
  obtain ⟨gm, cm, rfl, hgm, hcm⟩ := hst.formM (show 0 < nbl n by omega)
  have c0 := hst.c0
  have c1 := hst.c1
  have c2 := hst.cellM hb
  obtain ⟨lo, hlo⟩ : ∃ lo, lo = b * 256 := ⟨_, rfl⟩
  have r1 : (b : Int) * 256 = (lo : Int) := by omega
  have i1 : (b : Int) < (nbl n : Int) := by omega
  have i2 : lo < n := by omega
  have i3 : (lo : Int) < (n : Int) := by omega
  have c3 := hst.cellT i2
  have hnb : nbl n ≤ 257 := by unfold nbl; omega
  have HLO := hide hlo
  have HST := hide hst
  have HM := hide (hM b hb)
  have HC := hide (fun j (hj : j < n) => hst.cellT hj)
  clear hst hM hlo hb0
  by_cases hend : lo + 256 ≤ n
  · have hd : ¬ (n : Int) < (lo : Int) + 256 := by omega
    go_enter Try.func23, Try.ntmps23
    go_wp2_with (first
      | (go_at_call 26; refine (takes26 _ _ _ c0).mono ?_; rintro e w1 ⟨rfl, hw⟩; rw [hw]; clear hw w1)
      | (go_at_call 24; refine (most24 _ _ _ c1).mono ?_; rintro e w1 ⟨rfl, hw⟩; rw [hw]; clear hw w1))
    clear c0 c1 c3
    go_loop [9, 10] (fun x i => ∃ (j : Nat) (m : Int), lo < j ∧ j ≤ lo + 256 ∧ i = .int .i64 j ∧ x = .int .i16 m ∧ Great T lo (j - lo) m) (fun _ i => lo + 256 - (intOf i).toNat)
    case atStart => exact ⟨lo + 1, T lo, by omega, by omega, by go_num, rfl, by rw [show lo + 1 - lo = 1 by omega]; exact great_one T lo⟩
    case round =>
      obtain ⟨j, m, hj1, hj2, rfl, rfl, hG⟩ := hrel
      by_cases hlt : j < lo + 256
      · have hjn : j < n := by omega
        have c4 := unhide HC j hjn
        have i4 : (j : Int) < (n : Int) := by omega
        have HG := hide (great_step hG hj1)
        clear hG
        by_cases hm : m < T j
        · rw [if_pos hm] at HG
          go_wp2
          go_round
          case rel => exact ⟨j + 1, T j, by omega, by omega, by go_num, rfl, unhide HG⟩
          case measure => simp [intOf]; omega
        · rw [if_neg hm] at HG
          go_wp2
          go_round
          case rel => exact ⟨j + 1, m, by omega, by omega, by go_num, rfl, unhide HG⟩
          case measure => simp [intOf]; omega
      · obtain rfl : j = lo + 256 := by omega
        have hmm : m = M b := isMax_one (great_max hG (unhide HLO) (by have := unhide HLO; omega)) (unhide HM)
        rw [hmm]
        clear hmm hG HM
        go_wp2
        go_ret
        exact ⟨by simp, rfl⟩
  · have hd : (n : Int) < (lo : Int) + 256 := by omega
    go_enter Try.func23, Try.ntmps23
    go_wp2_with (first
      | (go_at_call 26; refine (takes26 _ _ _ c0).mono ?_; rintro e w1 ⟨rfl, hw⟩; rw [hw]; clear hw w1)
      | (go_at_call 24; refine (most24 _ _ _ c1).mono ?_; rintro e w1 ⟨rfl, hw⟩; rw [hw]; clear hw w1))
    clear c0 c1 c3
    go_loop [9, 10] (fun x i => ∃ (j : Nat) (m : Int), lo < j ∧ j ≤ n ∧ i = .int .i64 j ∧ x = .int .i16 m ∧ Great T lo (j - lo) m) (fun _ i => n - (intOf i).toNat)
    case atStart => exact ⟨lo + 1, T lo, by omega, by omega, by go_num, rfl, by rw [show lo + 1 - lo = 1 by omega]; exact great_one T lo⟩
    case round =>
      obtain ⟨j, m, hj1, hj2, rfl, rfl, hG⟩ := hrel
      by_cases hlt : j < n
      · have hjn : j < n := by omega
        have c4 := unhide HC j hjn
        have i4 : (j : Int) < (n : Int) := by omega
        have HG := hide (great_step hG hj1)
        clear hG
        by_cases hm : m < T j
        · rw [if_pos hm] at HG
          go_wp2
          go_round
          case rel => exact ⟨j + 1, T j, by omega, by omega, by go_num, rfl, unhide HG⟩
          case measure => simp [intOf]; omega
        · rw [if_neg hm] at HG
          go_wp2
          go_round
          case rel => exact ⟨j + 1, m, by omega, by omega, by go_num, rfl, unhide HG⟩
          case measure => simp [intOf]; omega
      · obtain rfl : n = j := by omega
        have hmm : m = M b := isMax_one (great_max hG (unhide HLO) (by have := unhide HLO; omega)) (unhide HM)
        rw [hmm]
        clear hmm hG HM
        go_wp2
        go_ret
        exact ⟨by simp, rfl⟩

/-- After j calls: the storeFree, each mark its block's greatest figure. -/
def Mar (w2 : World) (B : Nat) (p : Nat → Nat) (y : Nat → Int) (j : Nat) (wr : World) : Prop :=
  Below B w2 wr ∧ ∃ vt vm vs M, St wr B vt vm vs (nJ p j) (nbl (nJ p j)) (nbl (nJ p j)) (tJ p y j) M (sJ p j) (rJ p y j) ∧ Marks (tJ p y j) (nJ p j) M

theorem Mar.start {w2 : World} {B : Nat} (p : Nat → Nat) (y : Nat → Int) (h : B = w2.heap.size) : Mar w2 B p y 0 (w2.alloc (.cells #[.slice none 0 0, .slice none 0 0, .slice none 0 0, .int .u64 0] 40)) :=
  ⟨(Below.refl _ _).alloc (by omega) _, .slice none 0 0, .slice none 0 0, .slice none 0 0, fun _ => 0, st_zero h.symm, fun b hb => by simp [nJ, nbl] at hb⟩

theorem Mar.step {w2 wr w' : World} {B : Nat} {p : Nat → Nat} {y : Nat → Int} {j q : Nat} (h : Mar w2 B p y j wr) (hq : p j = q + 1)
    (hs : SetPost B wr.drew (nJ p j) (q + 1) (y j) (tJ p y j) (sJ p j) (rJ p y j) w') : Mar w2 B p y (j + 1) w' := by
  obtain ⟨hb, vt, vm, vs, M, hst, hM⟩ := hs
  have e0 : p j - 1 = q := by omega
  have eT : tJ p y (j + 1) = fun i => if i = q + 1 - 1 then y j else tJ p y j i := by funext i; show (if i = p j - 1 then _ else _) = _; rw [e0, Nat.add_sub_cancel]
  have eS : sJ p (j + 1) = fun b => if b = (q + 1 - 1) / 256 then sJ p j b + 1 else sJ p j b := by funext b; show (if b = (p j - 1) / 256 then _ else _) = _; rw [e0, Nat.add_sub_cancel]
  have eR : rJ p y (j + 1) = riseTo (tJ p y j) (q + 1 - 1) (y j) (rJ p y j) := by show riseTo _ (p j - 1) _ _ = _; rw [e0, Nat.add_sub_cancel]
  have eN : nJ p (j + 1) = max (nJ p j) (q + 1) := by show max (nJ p j) (p j) = _; rw [hq]
  refine ⟨h.1.drew.trans hb, ?_⟩
  rw [eT, eS, eR, eN]
  exact ⟨vt, vm, vs, M, hst, hM⟩

set_option maxRecDepth 100000 in
set_option maxHeartbeats 2000000 in
theorem law6 (a b : Option Addr) (la ca lb cb : Nat) (z y : Nat → Int) (w : World) (h1 : la ≤ maxLen) (h2 : lb ≤ maxLen) (hA : At w .u32 a la z) (hB : At w .i16 b lb y)
    (hna : a = none → la = 0 ∧ ca = 0) (hnb : b = none → lb = 0 ∧ cb = 0) (hz : ∀ j, 0 ≤ z j) (hy : ∀ j, -32768 ≤ y j ∧ y j ≤ 32767) :
    Calls Try.prog 6 #[.slice a la ca, .slice b lb cb] w fun e w' => e = .returned (.bool true) ∧ Below w.heap.size w w' := by
  have HA := hide hA
  have HB := hide hB
  have HNA := hide hna
  have HNB := hide hnb
  have HZ := hide hz
  have HY := hide hy
  clear hA hB hna hnb hz hy
  by_cases l1 : la ≤ 65536
  · by_cases l2 : lb ≤ 65536
    · go_enter Try.func6, Try.ntmps6
      go_wp2_with fail
      refine (bytes16 _ _ _ _ _ _ _ h1 h2).mono ?_
      rintro e w1 ⟨r, rfl, hw⟩
      rw [hw]
      clear hw w1
      cases r with
      | false =>
        go_wp2_with fail
        go_ret
        exact ⟨rfl, Below.refl _ _⟩
      | true =>
        go_wp2_with fail
        refine (fits17 _ _ _ _ _ _ z _ l1 l2 (by exact unhide HA)).mono ?_
        rintro e w1 ⟨r, rfl, hr, hw⟩
        rw [hw]
        clear hw w1
        cases r with
        | false =>
          clear hr
          go_wp2_with fail
          go_ret
          exact ⟨rfl, Below.refl _ _⟩
        | true =>
          have HR := hide (hr rfl)
          clear hr
          go_wp2_with fail
          refine (clone18 a la ca z _ l1 (by exact unhide HA) (unhide HNA)).mono ?_
          rintro e w1 ⟨a1, ca1, rfl, hA1, hB1⟩
          have HA1 := hide hA1
          clear hA1
          go_wp2_with fail
          refine (clone19 b lb cb y _ l2 (by exact (unhide HB).later hB1) (unhide HNB)).mono ?_
          rintro e w2 ⟨b2, cb2, rfl, hA2, hB2⟩
          have HA2 := hide ((unhide HA1).later hB2)
          have HB2 := hide hA2
          have BEL := hide (hB1.trans (hB2.mono hB1.size))
          clear hA2 hB1 hB2 HA1 HA HB HNA HNB
          go_wp2_with fail
          refine (calls20 a1 b2 la ca1 lb cb2 _).mono ?_
          rintro e w3 ⟨rfl, hw⟩
          rw [hw]
          clear hw w3
          obtain ⟨k, hk⟩ : ∃ k, min la lb = k := ⟨_, rfl⟩
          rw [hk]
          obtain ⟨p, hp⟩ : ∃ p : Nat → Nat, p = fun j => (z j).toNat := ⟨_, rfl⟩
          have hka : k ≤ la := by omega
          have hkb : k ≤ lb := by omega
          have hpz : ∀ j, ((p j : Nat) : Int) = z j := fun j => by rw [hp]; exact Int.toNat_of_nonneg (unhide HZ j)
          have HP := hide (show ∀ j, j < k → 1 ≤ p j ∧ p j ≤ 65536 from fun j hj => by
            have h3 := unhide HR j (by omega)
            have h4 := hpz j
            have h5 := unhide HZ j
            omega)
          have HN := hide (show ∀ j, j < k → ∃ g o, a1 = some ⟨g, o, none⟩ ∧ w2.cell? ⟨g, o + j, none⟩ = some (.int .u32 (p j : Nat)) ∧ g < w2.heap.size from fun j hj => by
            obtain ⟨g, o, e1, e2, e3⟩ := (unhide HA2).get (show j < la by omega)
            exact ⟨g, o, e1, by rw [hpz]; exact e2, e3⟩)
          have HT := hide (show ∀ j, j < k → ∃ g o, b2 = some ⟨g, o, none⟩ ∧ w2.cell? ⟨g, o + j, none⟩ = some (.int .i16 (y j)) ∧ g < w2.heap.size from fun j hj => (unhide HB2).get (show j < lb by omega))
          have HAB := hide (abJ p y (show k ≤ 65536 by omega) (unhide HP) (unhide HY))
          have hk0 : k ≤ 65536 := by omega
          clear hk hp hpz HA2 HB2 HR HZ
          go_wp2_with fail
          obtain ⟨B, hB⟩ : ∃ B, B = w2.heap.size := ⟨_, rfl⟩
          rw [← hB]
          have HBB := hide hB
          have ST0 := hide (Mar.start p y hB)
          clear hB
          go_loopw [7, 8] (fun x i wr => ∃ j : Nat, j ≤ k ∧ i = .int .i64 j ∧ x = .int .i64 (nJ p j : Nat) ∧ Mar w2 B p y j wr) (fun _ i _ => k - (intOf i).toNat)
          case atStart => exact ⟨0, by omega, rfl, rfl, unhide ST0⟩
          case round =>
            clear ST0
            obtain ⟨j, hj, rfl, rfl, hmar⟩ := hrel
            have hnj := nJ_le p (unhide HP) j hj
            by_cases hlt : j < k
            · obtain ⟨g1, o1, rfl, c1, hg1⟩ := unhide HN j hlt
              obtain ⟨g2, o2, rfl, c2, hg2⟩ := unhide HT j hlt
              obtain ⟨hp1, hp2⟩ := unhide HP j hlt
              obtain ⟨q, hq⟩ : ∃ q, p j = q + 1 := ⟨p j - 1, by omega⟩
              rw [hq] at c1 hp1 hp2
              have HQ := hide hq
              obtain ⟨d, hd⟩ : ∃ d, q / 256 = d := ⟨_, rfl⟩
              have eb : (q : Int) / 256 = (d : Int) := by omega
              have HD := hide hd
              have e1 : wr.cell? ⟨g1, o1 + j, none⟩ = some (.int .u32 ((q : Int) + 1)) := (hmar.1.cell (by rw [unhide HBB]; exact hg1)).trans c1
              have e2 : wr.cell? ⟨g2, o2 + j, none⟩ = some (.int .i16 (y j)) := (hmar.1.cell (by rw [unhide HBB]; exact hg2)).trans c2
              have i1 : (j : Int) < (la : Int) := by omega
              have i2 : (j : Int) < (lb : Int) := by omega
              have HMAR := hide hmar
              have HAJ := hide (unhide HAB j (by omega))
              have hgB1 : g1 < B := by rw [unhide HBB]; exact hg1
              have hgB2 : g2 < B := by rw [unhide HBB]; exact hg2
              have HCL : Hid (Calls Try.prog 21 #[.pointer (some ⟨B, 0, none⟩), .int .u32 ((q : Int) + 1), .int .i16 (y j)] wr.drew fun e w' => e = .returned (.tuple #[]) ∧ SetPost B wr.drew (nJ p j) (q + 1) (y j) (tJ p y j) (sJ p j) (rJ p y j) w') := by
                obtain ⟨vt, vm, vs, M, hst, hM⟩ := (unhide HMAR).2
                exact set21 B j (nJ p j) (q + 1) (y j) vt vm vs (tJ p y j) M (sJ p j) (rJ p y j) wr.drew hst.drew hM (unhide HAJ) (by omega) (by omega)
              clear hq hd hmar c1 c2
              go_wp2_with fail
              go_region_held3 (fun w' => w'.cell? ⟨g1, o1 + j, none⟩ = some (.int .u32 ((q : Int) + 1)) ∧ w'.cell? ⟨g2, o2 + j, none⟩ = some (.int .i16 (y j))) (go_keep)
                ((go_at_call 21; refine (unhide HCL).mono ?_; rintro e w4 ⟨rfl, hpost⟩; have HPO := hide hpost; clear hpost; have f3 : w4.cell? ⟨g1, o1 + j, none⟩ = some (.int .u32 ((q : Int) + 1)) := ((unhide HPO).1.cell (p := ⟨g1, o1 + j, none⟩) hgB1).trans e1; have f4 : w4.cell? ⟨g2, o2 + j, none⟩ = some (.int .i16 (y j)) := ((unhide HPO).1.cell (p := ⟨g2, o2 + j, none⟩) hgB2).trans e2))
              have MAR1 := hide (Mar.step (unhide HMAR) (unhide HQ) (unhide HPO))
              obtain ⟨vt, vm, vs, M, hst, hM⟩ := (unhide MAR1).2
              have hn1 := nJ_le p (unhide HP) (j + 1) (by omega)
              have hdn : d < nbl (nJ p (j + 1)) := by
                have h8 := lt_nbl (show q < nJ p (j + 1) by have := le_nJ p (show j < j + 1 by omega); have := unhide HQ; omega)
                have := unhide HD
                omega
              have C22 := hide (shape22 B (nJ p (j + 1)) vt vm vs _ M _ _ w4 hst hn1)
              have C23 := hide (max23 B (nJ p (j + 1)) d vt vm vs _ M _ _ w4 hst hM hn1 hdn)
              clear hst hM HPO HCL HMAR e1 e2 f4 hdn
              by_cases hm : nJ p j < q + 1
              · have en : nJ p (j + 1) = q + 1 := by show max (nJ p j) (p j) = q + 1; rw [unhide HQ]; omega
                rw [en] at C22
                have EN := hide en
                clear en hn1
                go_wp2_with fail
                refine (unhide C22).mono ?_
                rintro e w5 ⟨rfl, hw⟩
                rw [hw]
                clear hw w5
                go_wp2_with fail
                refine (unhide C23).mono ?_
                rintro e w5 ⟨rfl, hw⟩
                rw [hw]
                clear hw w5
                go_wp2_with fail
                go_roundw
                case rel => exact ⟨j + 1, by omega, by go_num, by rw [unhide EN]; go_num, unhide MAR1⟩
                case measure => simp [intOf]; omega
              · have en : nJ p (j + 1) = nJ p j := by show max (nJ p j) (p j) = nJ p j; rw [unhide HQ]; omega
                rw [en] at C22
                have EN := hide en
                clear en hn1
                go_wp2_with fail
                refine (unhide C22).mono ?_
                rintro e w5 ⟨rfl, hw⟩
                rw [hw]
                clear hw w5
                go_wp2_with fail
                refine (unhide C23).mono ?_
                rintro e w5 ⟨rfl, hw⟩
                rw [hw]
                clear hw w5
                go_wp2_with fail
                go_roundw
                case rel => exact ⟨j + 1, by omega, by go_num, by rw [unhide EN], unhide MAR1⟩
                case measure => simp [intOf]; omega
            · obtain rfl : k = j := by omega
              obtain ⟨vt, vm, vs, M, hst, hM⟩ := hmar.2
              obtain ⟨am1, cm1, rfl, _⟩ := hst.viewM
              have c1 := hst.c1
              have hnb : nbl (nJ p k) ≤ 257 := by unfold nbl; omega
              have C22 := hide (shape22 B (nJ p k) vt _ vs _ M _ _ wr hst hnj)
              have C23 := hide (fun b (hb : b < nbl (nJ p k)) => max23 B (nJ p k) b vt _ vs _ M _ _ wr hst hM hnj hb)
              have FIN := hide ((unhide BEL).trans (hmar.1.mono (show w.heap.size ≤ B by rw [unhide HBB]; exact (unhide BEL).size)))
              obtain ⟨N, hN⟩ : ∃ N, N = nJ p k := ⟨_, rfl⟩
              rw [← hN]
              rw [← hN] at C22 C23 c1 hnb
              clear hst hM hmar hN hnj HP HAB HN HT
              go_wp2_with fail
              refine (unhide C22).mono ?_
              rintro e w5 ⟨rfl, hw⟩
              rw [hw]
              clear hw w5
              go_wp2_with fail
              refine (most24 _ _ _ c1).mono ?_
              rintro e w5 ⟨rfl, hw⟩
              rw [hw]
              clear hw w5 c1
              go_wp2_with fail
              go_loop [10] (fun i => ∃ b : Nat, b ≤ nbl N ∧ i = .int .i64 b) (fun i => nbl N - (intOf i).toNat)
              case atStart => exact ⟨0, by omega, rfl⟩
              case round =>
                obtain ⟨b, hb, rfl⟩ := hrel
                by_cases hltb : b < nbl N
                · go_wp2_with fail
                  refine (unhide C23 b hltb).mono ?_
                  rintro e w5 ⟨rfl, hw⟩
                  rw [hw]
                  clear hw w5
                  go_wp2_with fail
                  go_round
                  case rel => exact ⟨b + 1, by omega, by go_num⟩
                  case measure => simp [intOf]; omega
                · go_wp2_with fail
                  go_ret
                  exact ⟨rfl, unhide FIN⟩
    · go_enter Try.func6, Try.ntmps6
      go_wp2_with fail
      refine (bytes16 _ _ _ _ _ _ _ h1 h2).mono ?_
      rintro e w1 ⟨r, rfl, hw⟩
      rw [hw]
      clear hw w1
      cases r <;> (go_wp2_with fail; go_ret; exact ⟨rfl, Below.refl _ _⟩)
  · go_enter Try.func6, Try.ntmps6
    go_wp2_with fail
    refine (bytes16 _ _ _ _ _ _ _ h1 h2).mono ?_
    rintro e w1 ⟨r, rfl, hw⟩
    rw [hw]
    clear hw w1
    cases r <;> (go_wp2_with fail; go_ret; exact ⟨rfl, Below.refl _ _⟩)

end Go.Proofs.Qxb6600149a.Sf
