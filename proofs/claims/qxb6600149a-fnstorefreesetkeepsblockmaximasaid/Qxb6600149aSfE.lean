/-
  FnStoreFreeSetMatchesLastWriteModel: the walk.
-/
import Derived.Test.Qxb6600149aSfD
import Derived.WalkSmall
namespace Go.Proofs.Qxb6600149a.Sf
open Go.RowKit

/-! ### The last-write model, after j calls: the greatest page, the figures, the counts, the rises -/
def nJ (p : Nat → Nat) : Nat → Nat
  | 0 => 0
  | j + 1 => max (nJ p j) (p j)
def tJ (p : Nat → Nat) (y : Nat → Int) : Nat → Nat → Int
  | 0 => fun _ => 32767
  | j + 1 => fun i => if i = p j - 1 then y j else tJ p y j i
def sJ (p : Nat → Nat) : Nat → Nat → Int
  | 0 => fun _ => 0
  | j + 1 => fun b => if b = (p j - 1) / 256 then sJ p j b + 1 else sJ p j b
def rJ (p : Nat → Nat) (y : Nat → Int) : Nat → Int
  | 0 => 0
  | j + 1 => riseTo (tJ p y j) (p j - 1) (y j) (rJ p y j)

theorem nJ_mono (p : Nat → Nat) {i j : Nat} (h : i ≤ j) : nJ p i ≤ nJ p j := by
  induction j with
  | zero => obtain rfl : i = 0 := by omega
            exact Nat.le_refl _
  | succ j ih =>
    by_cases e : i = j + 1
    · subst e; exact Nat.le_refl _
    · have := ih (by omega)
      show nJ p i ≤ max (nJ p j) (p j)
      omega
theorem le_nJ (p : Nat → Nat) {j k : Nat} (h : j < k) : p j ≤ nJ p k := by
  have := nJ_mono p (show j + 1 ≤ k by omega)
  have e : nJ p (j + 1) = max (nJ p j) (p j) := rfl
  omega
theorem nJ_le (p : Nat → Nat) {k : Nat} (hp : ∀ j, j < k → 1 ≤ p j ∧ p j ≤ 65536) : ∀ j, j ≤ k → nJ p j ≤ 65536
  | 0, _ => Nat.zero_le _
  | j + 1, h => by
    have h1 := nJ_le p hp j (by omega)
    have h2 := hp j (by omega)
    show max (nJ p j) (p j) ≤ 65536
    omega

theorem ab0 : Ab 0 0 (fun _ => 32767) (fun _ => 0) 0 := ⟨by omega, by omega, fun _ _ => rfl, fun _ => by decide, fun _ _ => rfl, fun _ => by simp, by simp⟩
theorem abJ (p : Nat → Nat) (y : Nat → Int) {k : Nat} (hk : k ≤ 65536) (hp : ∀ j, j < k → 1 ≤ p j ∧ p j ≤ 65536) (hy : ∀ j, -32768 ≤ y j ∧ y j ≤ 32767) : ∀ j, j ≤ k → Ab j (nJ p j) (tJ p y j) (sJ p j) (rJ p y j)
  | 0, _ => ab0
  | j + 1, h => (abJ p y hk hp hy j (by omega)).step (hp j (by omega)).1 (hp j (by omega)).2 (by omega) (hy j)

/-- The figures and the counts of a storeFree, as slices. -/
theorem St.viewT {w : World} {s : Nat} {vt vm vs : Value} {nt nm ns : Nat} {T M S : Nat → Int} {R : Int} (h : St w s vt vm vs nt nm ns T M S R) : ∃ a cap, vt = .slice a nt cap ∧ At w .i16 a nt T := by
  rcases h.ot.2 with ⟨e, e0⟩ | ⟨g, cap, cur, rfl, _⟩
  · exact ⟨none, 0, by rw [e, e0], .inl e0⟩
  · exact ⟨_, cap, rfl, .inr ⟨g, 0, rfl, fun i hi => by rw [Nat.zero_add]; exact h.cellT hi⟩⟩
theorem St.viewS {w : World} {s : Nat} {vt vm vs : Value} {nt nm ns : Nat} {T M S : Nat → Int} {R : Int} (h : St w s vt vm vs nt nm ns T M S R) : ∃ a cap, vs = .slice a ns cap ∧ At w .u64 a ns S := by
  rcases h.os.2 with ⟨e, e0⟩ | ⟨g, cap, cur, rfl, _⟩
  · exact ⟨none, 0, by rw [e, e0], .inl e0⟩
  · exact ⟨_, cap, rfl, .inr ⟨g, 0, rfl, fun i hi => by rw [Nat.zero_add]; exact h.cellS hi⟩⟩
theorem St.viewM {w : World} {s : Nat} {vt vm vs : Value} {nt nm ns : Nat} {T M S : Nat → Int} {R : Int} (h : St w s vt vm vs nt nm ns T M S R) : ∃ a cap, vm = .slice a nm cap ∧ At w .i16 a nm M := by
  rcases h.om.2 with ⟨e, e0⟩ | ⟨g, cap, cur, rfl, _⟩
  · exact ⟨none, 0, by rw [e, e0], .inl e0⟩
  · exact ⟨_, cap, rfl, .inr ⟨g, 0, rfl, fun i hi => by rw [Nat.zero_add]; exact h.cellM hi⟩⟩

/-- A store below the storeFree's own blocks. -/
theorem St.setLow {w : World} {s : Nat} {vt vm vs : Value} {nt nm ns : Nat} {T M S : Nat → Int} {R : Int} (h : St w s vt vm vs nt nm ns T M S R) {a : Addr} (ha : a.block < s) (v : Value) : St (w.setCell a v) s vt vm vs nt nm ns T M S R :=
  ⟨by rw [Deep.blk_setCell_other _ _ _ _ (by omega)]; exact h.hs, ownsRow_setCell_below h.ot (by omega) v, ownsRow_setCell_below h.om (by omega) v, ownsRow_setCell_below h.os (by omega) v, h.ne⟩

/-- After j calls: the model, the counts, the storeFree. -/
structure Mod (w2 : World) (B N : Nat) (p : Nat → Nat) (y : Nat → Int) (j : Nat) (wr : World) : Prop where
  bel : Below B w2 wr
  row : wr.rowIs B 44 N (fun i => .int .i16 (tJ p y j i))
  cnt : wr.rowIs (B + 1) 38 (nbl N) (fun b => .int .u64 (sJ p j b))
  st : ∃ vt vm vs M, St wr (B + 1 + 1) vt vm vs (nJ p j) (nbl (nJ p j)) (nbl (nJ p j)) (tJ p y j) M (sJ p j) (rJ p y j) ∧ Marks (tJ p y j) (nJ p j) M

theorem st_zero {wr : World} {s : Nat} (h : wr.heap.size = s) : St (wr.alloc (.cells #[.slice none 0 0, .slice none 0 0, .slice none 0 0, .int .u64 0] 40)) s (.slice none 0 0) (.slice none 0 0) (.slice none 0 0) 0 (nbl 0) (nbl 0) (fun _ => 32767) (fun _ => 0) (fun _ => 0) 0 :=
  ⟨by rw [← h]; exact Deep.blk_alloc_new _ _, World.ownsRow_nil _ _ _ _, World.ownsRow_nil _ _ _ _, World.ownsRow_nil _ _ _ _, .inl rfl⟩

theorem Mod.start {w2 wr : World} {B N : Nat} {p : Nat → Nat} {y : Nat → Int} (h1 : Below B w2 wr) (h2 : wr.rowIs B 44 N (fun i => .int .i16 (tJ p y 0 i))) (h3 : wr.heap.size = B + 1) :
    Mod w2 B N p y 0 ((wr.alloc (.cells (madeCells #[.int .u64 0] (nbl N)) 38)).alloc (.cells #[.slice none 0 0, .slice none 0 0, .slice none 0 0, .int .u64 0] 40)) := by
  refine ⟨(h1.alloc (by omega) _).alloc (by simp; omega) _, (h2.alloc _).alloc _, ?_, .slice none 0 0, .slice none 0 0, .slice none 0 0, fun _ => 0, st_zero (by simp; omega), fun b hb => by simp [nJ, nbl] at hb⟩
  refine World.rowIs.alloc ?_ _
  rw [← h3]
  exact (World.rowIs_made wr (.int .u64 0) (nbl N) 38).congr (fun i _ => rfl)

theorem Mod.step {w2 wr w' : World} {B N : Nat} {p : Nat → Nat} {y : Nat → Int} {j nq q : Nat} (h : Mod w2 B N p y j wr) (hq : p j = q + 1)
    (hs : SetPost (B + 1 + 1) (((wr.drewN nq).setCell ⟨B, q, none⟩ (.int .i16 (y j))).setCell ⟨B + 1, q / 256, none⟩ (.int .u64 (sJ p j (q / 256) + 1))).drew (nJ p j) (q + 1) (y j) (tJ p y j) (sJ p j) (rJ p y j) w') : Mod w2 B N p y (j + 1) w' := by
  obtain ⟨hb, vt, vm, vs, M, hst, hM⟩ := hs
  have e0 : p j - 1 = q := by omega
  have eT : tJ p y (j + 1) = fun i => if i = q + 1 - 1 then y j else tJ p y j i := by funext i; show (if i = p j - 1 then _ else _) = _; rw [e0, Nat.add_sub_cancel]
  have eS : sJ p (j + 1) = fun b => if b = (q + 1 - 1) / 256 then sJ p j b + 1 else sJ p j b := by funext b; show (if b = (p j - 1) / 256 then _ else _) = _; rw [e0, Nat.add_sub_cancel]
  have eR : rJ p y (j + 1) = riseTo (tJ p y j) (q + 1 - 1) (y j) (rJ p y j) := by show riseTo _ (p j - 1) _ _ = _; rw [e0, Nat.add_sub_cancel]
  have eN : nJ p (j + 1) = max (nJ p j) (q + 1) := by show max (nJ p j) (p j) = _; rw [hq]
  refine ⟨?_, ?_, ?_, ?_⟩
  · exact ((((below_drewN h.bel nq).setCell (p := ⟨B, q, none⟩) (Nat.le_refl _) _).setCell (p := ⟨B + 1, q / 256, none⟩) (Nat.le_succ _) _).drew).trans (hb.mono (by omega))
  · have r0 : (wr.drewN nq).rowIs B 44 N (fun i => .int .i16 (tJ p y j i)) := h.row
    have r1 := ((r0.set q (.int .i16 (y j))).setOther (a := ⟨B + 1, q / 256, none⟩) (by simp) (.int .u64 (sJ p j (q / 256) + 1))).drew
    refine (r1.of_block (hb.block B (by omega))).congr (fun i _ => ?_)
    rw [eT, Nat.add_sub_cancel]
    by_cases e : i = q <;> simp [e]
  · have r0 : (wr.drewN nq).rowIs (B + 1) 38 (nbl N) (fun b => .int .u64 (sJ p j b)) := h.cnt
    have r1 := ((r0.setOther (a := ⟨B, q, none⟩) (by simp) (.int .i16 (y j))).set (q / 256) (.int .u64 (sJ p j (q / 256) + 1))).drew
    refine (r1.of_block (hb.block (B + 1) (by omega))).congr (fun i _ => ?_)
    rw [eS, Nat.add_sub_cancel]
    by_cases e : i = q / 256 <;> simp [e]
  · rw [eT, eS, eR, eN]
    exact ⟨vt, vm, vs, M, hst, hM⟩

set_option maxRecDepth 100000 in
set_option maxHeartbeats 2000000 in
theorem law7 (a b : Option Addr) (la ca lb cb : Nat) (z y : Nat → Int) (w : World) (h1 : la ≤ maxLen) (h2 : lb ≤ maxLen) (hA : At w .u32 a la z) (hB : At w .i16 b lb y)
    (hna : a = none → la = 0 ∧ ca = 0) (hnb : b = none → lb = 0 ∧ cb = 0) (hz : ∀ j, 0 ≤ z j) (hy : ∀ j, -32768 ≤ y j ∧ y j ≤ 32767) :
    Calls Try.prog 7 #[.slice a la ca, .slice b lb cb] w fun e w' => e = .returned (.bool true) ∧ Below w.heap.size w w' := by
  have HA := hide hA
  have HB := hide hB
  have HNA := hide hna
  have HNB := hide hnb
  have HZ := hide hz
  have HY := hide hy
  clear hA hB hna hnb hz hy
  by_cases l1 : la ≤ 65536
  · by_cases l2 : lb ≤ 65536
    · go_enter Try.func7, Try.ntmps7
      go_wp2_with fail
      refine (bytes25 _ _ _ _ _ _ _ h1 h2).mono ?_
      rintro e w1 ⟨r, rfl, hw⟩
      rw [hw]
      clear hw w1
      cases r with
      | false =>
        go_wp2_with fail
        go_ret
        exact ⟨rfl, Below.refl _ _⟩
      | true =>
        go_wp2_with fail
        refine (fits17 _ _ _ _ _ _ z _ l1 l2 (by exact unhide HA)).mono ?_
        rintro e w1 ⟨r, rfl, hr, hw⟩
        rw [hw]
        clear hw w1
        cases r with
        | false =>
          clear hr
          go_wp2_with fail
          go_ret
          exact ⟨rfl, Below.refl _ _⟩
        | true =>
          have HR := hide (hr rfl)
          clear hr
          go_wp2_with fail
          refine (clone18 a la ca z _ l1 (by exact unhide HA) (unhide HNA)).mono ?_
          rintro e w1 ⟨a1, ca1, rfl, hA1, hB1⟩
          have HA1 := hide hA1
          clear hA1
          go_wp2_with fail
          refine (clone19 b lb cb y _ l2 (by exact (unhide HB).later hB1) (unhide HNB)).mono ?_
          rintro e w2 ⟨b2, cb2, rfl, hA2, hB2⟩
          have HA2 := hide ((unhide HA1).later hB2)
          have HB2 := hide hA2
          have BEL := hide (hB1.trans (hB2.mono hB1.size))
          clear hA2 hB1 hB2 HA1 HA HB HNA HNB
          go_wp2_with fail
          refine (calls20 a1 b2 la ca1 lb cb2 _).mono ?_
          rintro e w3 ⟨rfl, hw⟩
          rw [hw]
          clear hw w3
          obtain ⟨k, hk⟩ : ∃ k, min la lb = k := ⟨_, rfl⟩
          rw [hk]
          obtain ⟨p, hp⟩ : ∃ p : Nat → Nat, p = fun j => (z j).toNat := ⟨_, rfl⟩
          have hka : k ≤ la := by omega
          have hkb : k ≤ lb := by omega
          have hpz : ∀ j, ((p j : Nat) : Int) = z j := fun j => by rw [hp]; exact Int.toNat_of_nonneg (unhide HZ j)
          have HP := hide (show ∀ j, j < k → 1 ≤ p j ∧ p j ≤ 65536 from fun j hj => by
            have h3 := unhide HR j (by omega)
            have h4 := hpz j
            have h5 := unhide HZ j
            omega)
          have HN := hide (show ∀ j, j < k → ∃ g o, a1 = some ⟨g, o, none⟩ ∧ w2.cell? ⟨g, o + j, none⟩ = some (.int .u32 (p j : Nat)) ∧ g < w2.heap.size from fun j hj => by
            obtain ⟨g, o, e1, e2, e3⟩ := (unhide HA2).get (show j < la by omega)
            exact ⟨g, o, e1, by rw [hpz]; exact e2, e3⟩)
          have HT := hide (show ∀ j, j < k → ∃ g o, b2 = some ⟨g, o, none⟩ ∧ w2.cell? ⟨g, o + j, none⟩ = some (.int .i16 (y j)) ∧ g < w2.heap.size from fun j hj => (unhide HB2).get (show j < lb by omega))
          have HAB := hide (abJ p y (show k ≤ 65536 by omega) (unhide HP) (unhide HY))
          have hk0 : k ≤ 65536 := by omega
          clear hk hp hpz HA2 HB2 HR HZ
          go_wp2_with fail
          go_loop [6, 7] (fun x i => ∃ j : Nat, j ≤ k ∧ i = .int .i64 j ∧ x = .int .i64 (nJ p j : Nat)) (fun _ i => k - (intOf i).toNat)
          case atStart => exact ⟨0, by omega, rfl, rfl⟩
          case round =>
            obtain ⟨j, hj, rfl, rfl⟩ := hrel
            have hnj := nJ_le p (unhide HP) j hj
            by_cases hlt : j < k
            · obtain ⟨g, o, rfl, c1, _⟩ := unhide HN j hlt
              obtain ⟨hp1, hp2⟩ := unhide HP j hlt
              have hja : (j : Int) < (la : Int) := by omega
              by_cases hm : nJ p j < p j
              · go_wp2
                go_round
                case rel => exact ⟨j + 1, by omega, by go_num, by rw [show nJ p (j + 1) = p j from by show max (nJ p j) (p j) = p j; omega]⟩
                case measure => simp [intOf]; omega
              · go_wp2
                go_round
                case rel => exact ⟨j + 1, by omega, by go_num, by rw [show nJ p (j + 1) = nJ p j from by show max (nJ p j) (p j) = nJ p j; omega]⟩
                case measure => simp [intOf]; omega
            · obtain rfl : k = j := by omega
              obtain ⟨N, hN⟩ : ∃ N, N = nJ p k := ⟨_, rfl⟩
              rw [← hN]
              have HNN := hide hN
              have hN6 : N ≤ 65536 := by rw [hN]; exact hnj
              clear hN hnj hlt
              have hmk := fun w => run_make_row' (P := Try.prog) 32 44 (.int .i16 0) 2 Try.underlying32 info44 rfl .i64 .i64 N (by omega) (by omega) w
              go_wp2_with fail
              clear hmk
              obtain ⟨B, hB⟩ : ∃ B, B = w2.heap.size := ⟨_, rfl⟩
              rw [← hB]
              have HBB := hide hB
              go_loopw [9] (fun i wr => ∃ j : Nat, j ≤ N ∧ i = .int .i64 j ∧ wr.rowIs B 44 N (fun i => .int .i16 (if i < j then 32767 else 0)) ∧ Below B w2 wr ∧ wr.heap.size = B + 1) (fun i _ => N - (intOf i).toNat)
              case atStart => exact ⟨0, by omega, rfl, by rw [hB]; exact (World.rowIs_made w2 (.int .i16 0) N 44).congr (by simp), by rw [hB]; exact (Below.refl _ _).alloc (Nat.le_refl _) _, by rw [hB]; simp⟩
              case round =>
                clear hB
                obtain ⟨j, hj, rfl, hrow, hbel, hsz⟩ := hrel
                by_cases hlt : j < N
                · have c2 := hrow.cell hlt
                  have c3 := hrow.frozen j
                  go_wp2
                  go_roundw
                  case rel =>
                    refine ⟨j + 1, by omega, by go_num, (hrow.set j (.int .i16 32767)).congr ?_, hbel.setCell (by simp) _, by simpa using hsz⟩
                    intro i hi
                    by_cases e : i = j
                    · subst e; simp
                    · by_cases e' : i < j
                      · simp [e, e', show i < j + 1 by omega]
                      · simp [e, e', show ¬ i < j + 1 by omega]
                  case measure => simp [intOf]; omega
                · have ROW := hide (show wr.rowIs B 44 N (fun i => .int .i16 (tJ p y 0 i)) from hrow.congr (fun i hi => by simp [show i < j by omega]; rfl))
                  have BW := hide hbel
                  have hNb : nbl N ≤ 257 := by unfold nbl; omega
                  have hmk := fun w => run_make_row' (P := Try.prog) 37 38 (.int .u64 0) 8 Try.underlying37 info38 rfl .i64 .i64 (nbl N) (by omega) (by omega) w
                  have en : ((N : Int) + 256 - 1) / 256 = ((nbl N : Nat) : Int) := by unfold nbl; omega
                  clear hrow hbel
                  go_wp2_with fail
                  clear hmk en
                  have MOD0 := hide (Mod.start (unhide BW) (unhide ROW) hsz)
                  clear BW ROW hsz
                  go_loopw [11, 13] (fun x i wr => ∃ j : Nat, j ≤ k ∧ i = .int .i64 j ∧ x = .int .u64 (rJ p y j) ∧ Mod w2 B N p y j wr) (fun _ i _ => k - (intOf i).toNat)
                  case atStart => exact ⟨0, by omega, rfl, rfl, unhide MOD0⟩
                  case round =>
                    clear MOD0 hlt hj
                    obtain ⟨j, hj, rfl, rfl, hmod⟩ := hrel
                    by_cases hlt : j < k
                    · obtain ⟨g1, o1, rfl, c1, hg1⟩ := unhide HN j hlt
                      obtain ⟨g2, o2, rfl, c2, hg2⟩ := unhide HT j hlt
                      obtain ⟨hp1, hp2⟩ := unhide HP j hlt
                      obtain ⟨q, hq⟩ : ∃ q, p j = q + 1 := ⟨p j - 1, by omega⟩
                      have hqN : q < N := by have := le_nJ p hlt; rw [← unhide HNN] at this; omega
                      rw [hq] at c1 hp1 hp2
                      have HQ := hide hq
                      obtain ⟨d, hd⟩ : ∃ d, q / 256 = d := ⟨_, rfl⟩
                      have eb : (q : Int) / 256 = (d : Int) := by omega
                      have hdN : d < nbl N := by have := lt_nbl hqN; omega
                      have HD := hide hd
                      have e1 : wr.cell? ⟨g1, o1 + j, none⟩ = some (.int .u32 (q + 1 : Nat)) := (hmod.bel.cell (by rw [unhide HBB]; exact hg1)).trans c1
                      have e2 : wr.cell? ⟨g2, o2 + j, none⟩ = some (.int .i16 (y j)) := (hmod.bel.cell (by rw [unhide HBB]; exact hg2)).trans c2
                      have e3 : wr.cell? ⟨B, q, none⟩ = some (.int .i16 (tJ p y j q)) := hmod.row.cell hqN
                      have e4 : wr.cell? ⟨B + 1, d, none⟩ = some (.int .u64 (sJ p j d)) := hmod.cnt.cell hdN
                      have e5 := hmod.row.frozen q
                      have e6 := hmod.cnt.frozen d
                      have hAB := unhide HAB j (by omega)
                      have sb := hAB.cnt d
                      have rb := hAB.ris
                      have yb := unhide HY j
                      have i1 : (j : Int) < (la : Int) := by omega
                      have i2 : (j : Int) < (lb : Int) := by omega
                      have i3 : (q : Int) < (N : Int) := by omega
                      have i4 : (d : Int) < (nbl N : Int) := by omega
                      have HMOD := hide hmod
                      have HAJ := hide hAB
                      clear hq hd hmod hAB c1 c2
                      by_cases ht : tJ p y j q < y j
                      · go_wp2_with fail
                        go_quiet (fail)
                        go_wp2_with fail
                        obtain ⟨W, hW⟩ : ∃ W, W = ((wr.drewN nq).setCell ⟨B, q, none⟩ (.int .i16 (y j))).setCell ⟨B + 1, d, none⟩ (.int .u64 (sJ p j d + 1)) := ⟨_, rfl⟩
                        rw [← hW]
                        have BLW : Below B wr W := by rw [hW]; exact ((below_drewN (Below.refl B wr) nq).setCell (p := ⟨B, q, none⟩) (Nat.le_refl _) _).setCell (p := ⟨B + 1, d, none⟩) (Nat.le_succ _) _
                        have f1 : W.cell? ⟨g1, o1 + j, none⟩ = some (.int .u32 ((q : Int) + 1)) := (BLW.cell (by rw [unhide HBB]; exact hg1)).trans e1
                        have f2 : W.cell? ⟨g2, o2 + j, none⟩ = some (.int .i16 (y j)) := (BLW.cell (by rw [unhide HBB]; exact hg2)).trans e2
                        have HCL : Hid (Calls Try.prog 21 #[.pointer (some ⟨B + 1 + 1, 0, none⟩), .int .u32 ((q : Int) + 1), .int .i16 (y j)] W.drew fun e w' => e = .returned (.tuple #[]) ∧ SetPost (B + 1 + 1) W.drew (nJ p j) (q + 1) (y j) (tJ p y j) (sJ p j) (rJ p y j) w') := by
                          obtain ⟨vt, vm, vs, M, hst, hM⟩ := (unhide HMOD).st
                          have hst' : St W.drew (B + 1 + 1) vt vm vs (nJ p j) (nbl (nJ p j)) (nbl (nJ p j)) (tJ p y j) M (sJ p j) (rJ p y j) := by
                            rw [hW]
                            exact (((hst.drewN nq).setLow (a := ⟨B, q, none⟩) (show B < B + 1 + 1 by omega) _).setLow (a := ⟨B + 1, d, none⟩) (show B + 1 < B + 1 + 1 by omega) _).drew
                          exact set21 (B + 1 + 1) j (nJ p j) (q + 1) (y j) vt vm vs (tJ p y j) M (sJ p j) (rJ p y j) W.drew hst' hM (unhide HAJ) (by omega) (by omega)
                        have HW := hide hW
                        clear hW BLW e1 e2 e3 e4 e5 e6
                        go_region_held3 (fun w' => w'.cell? ⟨g1, o1 + j, none⟩ = some (.int .u32 ((q : Int) + 1)) ∧ w'.cell? ⟨g2, o2 + j, none⟩ = some (.int .i16 (y j))) (go_keep)
                          ((go_at_call 21; refine (unhide HCL).mono ?_; rintro e w4 ⟨rfl, hpost⟩; have HPO := hide hpost; clear hpost; have f3 : w4.cell? ⟨g1, o1 + j, none⟩ = some (.int .u32 ((q : Int) + 1)) := ((unhide HPO).1.cell (show g1 < B + 1 + 1 by rw [unhide HBB]; omega)).trans f1; have f4 : w4.cell? ⟨g2, o2 + j, none⟩ = some (.int .i16 (y j)) := ((unhide HPO).1.cell (show g2 < B + 1 + 1 by rw [unhide HBB]; omega)).trans f2))
                        have MOD1 : Hid (Mod w2 B N p y (j + 1) w4) := by
                          have h7 := unhide HPO
                          rw [unhide HW, ← unhide HD] at h7
                          exact (unhide HMOD).step (unhide HQ) h7
                        clear f1 f2 f3 f4 HPO
                        go_wp2
                        go_roundw
                        case rel => exact ⟨j + 1, by omega, by go_num, by rw [show rJ p y (j + 1) = rJ p y j + 1 from by show riseTo (tJ p y j) (p j - 1) (y j) (rJ p y j) = _; rw [unhide HQ, Nat.add_sub_cancel, riseTo, if_pos ht]], unhide MOD1⟩
                        case measure => simp [intOf]; omega
                      · go_wp2_with fail
                        go_quiet (fail)
                        go_wp2_with fail
                        obtain ⟨W, hW⟩ : ∃ W, W = ((wr.drewN nq).setCell ⟨B, q, none⟩ (.int .i16 (y j))).setCell ⟨B + 1, d, none⟩ (.int .u64 (sJ p j d + 1)) := ⟨_, rfl⟩
                        rw [← hW]
                        have BLW : Below B wr W := by rw [hW]; exact ((below_drewN (Below.refl B wr) nq).setCell (p := ⟨B, q, none⟩) (Nat.le_refl _) _).setCell (p := ⟨B + 1, d, none⟩) (Nat.le_succ _) _
                        have f1 : W.cell? ⟨g1, o1 + j, none⟩ = some (.int .u32 ((q : Int) + 1)) := (BLW.cell (by rw [unhide HBB]; exact hg1)).trans e1
                        have f2 : W.cell? ⟨g2, o2 + j, none⟩ = some (.int .i16 (y j)) := (BLW.cell (by rw [unhide HBB]; exact hg2)).trans e2
                        have HCL : Hid (Calls Try.prog 21 #[.pointer (some ⟨B + 1 + 1, 0, none⟩), .int .u32 ((q : Int) + 1), .int .i16 (y j)] W.drew fun e w' => e = .returned (.tuple #[]) ∧ SetPost (B + 1 + 1) W.drew (nJ p j) (q + 1) (y j) (tJ p y j) (sJ p j) (rJ p y j) w') := by
                          obtain ⟨vt, vm, vs, M, hst, hM⟩ := (unhide HMOD).st
                          have hst' : St W.drew (B + 1 + 1) vt vm vs (nJ p j) (nbl (nJ p j)) (nbl (nJ p j)) (tJ p y j) M (sJ p j) (rJ p y j) := by
                            rw [hW]
                            exact (((hst.drewN nq).setLow (a := ⟨B, q, none⟩) (show B < B + 1 + 1 by omega) _).setLow (a := ⟨B + 1, d, none⟩) (show B + 1 < B + 1 + 1 by omega) _).drew
                          exact set21 (B + 1 + 1) j (nJ p j) (q + 1) (y j) vt vm vs (tJ p y j) M (sJ p j) (rJ p y j) W.drew hst' hM (unhide HAJ) (by omega) (by omega)
                        have HW := hide hW
                        clear hW BLW e1 e2 e3 e4 e5 e6
                        go_region_held3 (fun w' => w'.cell? ⟨g1, o1 + j, none⟩ = some (.int .u32 ((q : Int) + 1)) ∧ w'.cell? ⟨g2, o2 + j, none⟩ = some (.int .i16 (y j))) (go_keep)
                          ((go_at_call 21; refine (unhide HCL).mono ?_; rintro e w4 ⟨rfl, hpost⟩; have HPO := hide hpost; clear hpost; have f3 : w4.cell? ⟨g1, o1 + j, none⟩ = some (.int .u32 ((q : Int) + 1)) := ((unhide HPO).1.cell (show g1 < B + 1 + 1 by rw [unhide HBB]; omega)).trans f1; have f4 : w4.cell? ⟨g2, o2 + j, none⟩ = some (.int .i16 (y j)) := ((unhide HPO).1.cell (show g2 < B + 1 + 1 by rw [unhide HBB]; omega)).trans f2))
                        have MOD1 : Hid (Mod w2 B N p y (j + 1) w4) := by
                          have h7 := unhide HPO
                          rw [unhide HW, ← unhide HD] at h7
                          exact (unhide HMOD).step (unhide HQ) h7
                        clear f1 f2 f3 f4 HPO
                        go_wp2
                        go_roundw
                        case rel => exact ⟨j + 1, by omega, by go_num, by rw [show rJ p y (j + 1) = rJ p y j from by show riseTo (tJ p y j) (p j - 1) (y j) (rJ p y j) = _; rw [unhide HQ, Nat.add_sub_cancel, riseTo, if_neg (by omega)]], unhide MOD1⟩
                        case measure => simp [intOf]; omega
                    · obtain rfl : k = j := by omega
                      obtain ⟨vt, vm, vs, M, hst, _⟩ := hmod.st
                      rw [← unhide HNN] at hst
                      obtain ⟨at1, ct1, rfl, hAt⟩ := hst.viewT
                      obtain ⟨as1, cs1, rfl, hAs⟩ := hst.viewS
                      have c0 := hst.c0
                      have c2 := hst.c2
                      have c3 := hst.c3
                      have HAT := hide hAt
                      have HAS := hide hAs
                      have ROW := hide hmod.row
                      have CNT := hide hmod.cnt
                      have FIN := hide ((unhide BEL).trans (hmod.bel.mono (show w.heap.size ≤ B by rw [unhide HBB]; exact (unhide BEL).size)))
                      obtain ⟨RR, hRR⟩ : ∃ RR, rJ p y k = RR := ⟨_, rfl⟩
                      rw [hRR]
                      rw [hRR] at c3
                      clear hAt hAs hmod hst hRR HAB HP HY
                      go_wp2_with fail
                      refine (takes26 _ _ _ c0).mono ?_
                      rintro e w5 ⟨rfl, hw⟩
                      rw [hw]
                      clear hw w5
                      go_wp2_with fail
                      refine (sets27 _ _ _ c2).mono ?_
                      rintro e w5 ⟨rfl, hw⟩
                      rw [hw]
                      clear hw w5 c0 c2
                      go_wp2_with fail
                      obtain ⟨wo, hwo⟩ : ∃ wo : World, wo = wr := ⟨_, rfl⟩
                      rw [← hwo]
                      rw [← hwo] at c3 HAT HAS ROW CNT FIN
                      clear hwo
                      go_loopw [17] (fun i wx => ∃ j : Nat, j ≤ N ∧ i = .int .i64 j ∧ ∃ q, wx = wo.drewN q) (fun i _ => N - (intOf i).toNat)
                      case atStart => exact ⟨0, by omega, rfl, 0, rfl⟩
                      case round =>
                        obtain ⟨j, hj, rfl, q, rfl⟩ := hrel
                        by_cases hlt4 : j < N
                        · obtain ⟨g, o, rfl, e1, _⟩ := (unhide HAT).get hlt4
                          have e2 : wo.cell? ⟨B, j, none⟩ = some (.int .i16 (tJ p y k j)) := (unhide ROW).cell hlt4
                          have i1 : (j : Int) < (N : Int) := by omega
                          clear c3
                          go_wp2_with fail
                          go_quiet (fail)
                          go_wp2
                          go_roundw
                          case rel => exact ⟨j + 1, by omega, by go_num, _, rfl⟩
                          case measure => simp [intOf]; omega
                        · go_wp2_with fail
                          go_loopw [18] (fun i wx => ∃ j : Nat, j ≤ nbl N ∧ i = .int .i64 j ∧ ∃ q, wx = wo.drewN q) (fun i _ => nbl N - (intOf i).toNat)
                          case atStart => exact ⟨0, by omega, rfl, q, rfl⟩
                          case round =>
                            clear hlt4 hj
                            obtain ⟨j, hj, rfl, q, rfl⟩ := hrel
                            by_cases hlt5 : j < nbl N
                            · obtain ⟨g, o, rfl, e1, _⟩ := (unhide HAS).get hlt5
                              have e2 : wo.cell? ⟨B + 1, j, none⟩ = some (.int .u64 (sJ p k j)) := (unhide CNT).cell hlt5
                              have i1 : (j : Int) < (nbl N : Int) := by omega
                              clear c3
                              go_wp2_with fail
                              go_quiet (fail)
                              go_wp2
                              go_roundw
                              case rel => exact ⟨j + 1, by omega, by go_num, _, rfl⟩
                              case measure => simp [intOf]; omega
                            · go_wp2_with fail
                              refine (rises28 (B + 1 + 1) _ (wo.drewN q) c3).mono ?_
                              rintro e w5 ⟨rfl, hw⟩
                              rw [hw]
                              clear hw w5
                              go_wp2
                              go_ret
                              exact ⟨by simp, below_drewN (unhide FIN) _⟩
    · go_enter Try.func7, Try.ntmps7
      go_wp2_with fail
      refine (bytes25 _ _ _ _ _ _ _ h1 h2).mono ?_
      rintro e w1 ⟨r, rfl, hw⟩
      rw [hw]
      clear hw w1
      cases r <;> (go_wp2_with fail; go_ret; exact ⟨rfl, Below.refl _ _⟩)
  · go_enter Try.func7, Try.ntmps7
    go_wp2_with fail
    refine (bytes25 _ _ _ _ _ _ _ h1 h2).mono ?_
    rintro e w1 ⟨r, rfl, hw⟩
    rw [hw]
    clear hw w1
    cases r <;> (go_wp2_with fail; go_ret; exact ⟨rfl, Below.refl _ _⟩)

end Go.Proofs.Qxb6600149a.Sf
