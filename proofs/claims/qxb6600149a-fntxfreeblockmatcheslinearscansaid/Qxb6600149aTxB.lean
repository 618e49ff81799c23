import Derived.Test.Qxb6600149aTxA
import Derived.Deep.RegionLaw
import Derived.Deep.AppendLies
namespace Go.Proofs.Qxb6600149a.Tx
open Go.RowKit

theorem hide {q : Prop} (h : q) : Hid q := h
theorem unhide {q : Prop} (h : Hid q) : q := h

/-- The marks of a transaction whose views are of the blocks z 0, z 1, ..: as they lie in memory. -/
def TxM (w : World) (m n : Nat) (z : Nat → Int) : Prop :=
  ∃ (v : Value) (p : Nat → Nat) (cur : Array Value), w.heap[m]? = some (.cells cur 57 (0, 0)) ∧ cur.size = 8 ∧ cur[1]? = some v ∧
    w.ownsRow (m + 1) 58 1 v n ((List.range n).map fun i => .pointer (some ⟨p i, 0, none⟩)) ∧
    ∀ i, i < n → ∃ c : Array Value, w.heap[p i]? = some (.cells c 62 (0, 0)) ∧ c[0]? = some (.int .i64 (z i))

theorem info58 : (Try.prog.info? 58).map (fun i => (i.zero, i.size, i.bytes)) = some (some (.pointer none), 1, 8) := by kernel_rfl

theorem zero62 : ∃ Z : Array Value, Z.size = 263 ∧ ∀ w, (zeroValue 62).run Try.prog w = .ok (.agg Z) w :=
  ⟨#[.int .i64 0] ++ Array.replicate 4 (.int .u64 0) ++ Array.replicate 256 (.int .i16 0) ++ #[.int .i16 0, .int .u64 0], by kernel_rfl, fun w => by kernel_rfl⟩

/-- The marks' own block stands behind the append. -/
theorem keep_m {wr W w1 : World} {m k : Nat} {cur : Array Value} {v : Value} {xs : List Value} (hm : wr.heap[m]? = some (.cells cur 57 (0, 0))) (hown : wr.ownsRow (m + 1) 58 1 v k xs)
    (hW : Below wr.heap.size wr W) (hg : W.grownBy w1 v.ownBlock) : w1.heap[m]? = some (.cells cur 57 (0, 0)) := by
  have hlt : m < wr.heap.size := (Array.getElem?_eq_some_iff.1 hm).1
  rw [hg.block m (by have := hW.size; omega) (fun e => by have := hown.lt m e.symm; omega), hW.block m hlt]
  exact hm

/-- Where the one element lies that is appended. -/
theorem new_cell (wr : World) (A : Obj) (x : Value) (t : TypeId) : ∀ j u, [x][j]? = some u → ((wr.alloc A).alloc (.cells #[x] t)).drew.cell? ((⟨wr.heap.size + 1, 0, none⟩ : Addr).add j) = some u := by
  have h : ((wr.alloc A).alloc (.cells #[x] t)).drew.heap[wr.heap.size + 1]? = some (.cells #[x] t (0, 0)) := by
    have := Deep.blk_alloc_new (wr.alloc A) (.cells #[x] t)
    rw [Deep.nblk_alloc] at this
    exact this
  intro j u hu
  exact World.news_of_block h j u (by simpa using hu)

/-- WHAT ONE ROUND DOES: one view more. -/
theorem tx_step {w wr w1 : World} {m k g cap' : Nat} {cur C : Array Value} {v : Value} {p : Nat → Nat} {z : Nat → Int} {T : TypeId}
    (hm : wr.heap[m]? = some (.cells cur 57 (0, 0))) (hcs : cur.size = 8)
    (hown : wr.ownsRow (m + 1) 58 1 v k ((List.range k).map fun i => .pointer (some ⟨p i, 0, none⟩)))
    (hps : ∀ i, i < k → ∃ c : Array Value, wr.heap[p i]? = some (.cells c 62 (0, 0)) ∧ c[0]? = some (.int .i64 (z i)))
    (hC : C[0]? = some (.int .i64 (z k)))
    (hbel : Below m w wr)
    (hown1 : w1.ownsRow (m + 1) 58 1 (.slice (some ⟨g, 0, none⟩) (k + 1) cap') (k + 1) (((List.range k).map fun i => .pointer (some ⟨p i, 0, none⟩)) ++ [.pointer (some ⟨wr.heap.size, 0, none⟩)]))
    (hg : ((wr.alloc (.cells C 62)).alloc (.cells #[.pointer (some ⟨wr.heap.size, 0, none⟩)] T)).drew.grownBy w1 v.ownBlock) :
    Below m w (w1.setCell ⟨m, 1, none⟩ (.slice (some ⟨g, 0, none⟩) (k + 1) cap')) ∧ TxM (w1.setCell ⟨m, 1, none⟩ (.slice (some ⟨g, 0, none⟩) (k + 1) cap')) m (k + 1) z := by
  have hmlt : m < wr.heap.size := (Array.getElem?_eq_some_iff.1 hm).1
  have hW : Below wr.heap.size wr ((wr.alloc (.cells C 62)).alloc (.cells #[.pointer (some ⟨wr.heap.size, 0, none⟩)] T)).drew := (((Below.refl _ _).alloc (Nat.le_refl _) _).alloc (by simp) _).drew
  have hm1 := keep_m hm hown hW hg
  have hWs : ((wr.alloc (.cells C 62)).alloc (.cells #[.pointer (some ⟨wr.heap.size, 0, none⟩)] T)).drew.heap.size = wr.heap.size + 2 := by simp
  have hnew : ((wr.alloc (.cells C 62)).alloc (.cells #[.pointer (some ⟨wr.heap.size, 0, none⟩)] T)).drew.heap[wr.heap.size]? = some (.cells C 62 (0, 0)) := by
    show ((wr.alloc (.cells C 62)).alloc (.cells #[.pointer (some ⟨wr.heap.size, 0, none⟩)] T)).heap[wr.heap.size]? = _
    rw [Deep.blk_alloc_lt _ _ _ (by simp), Deep.blk_alloc_new]
  refine ⟨?_, .slice (some ⟨g, 0, none⟩) (k + 1) cap', fun i => if i < k then p i else wr.heap.size, cur.setIfInBounds 1 (.slice (some ⟨g, 0, none⟩) (k + 1) cap'), ?_, by simpa using hcs, ?_, ?_, ?_⟩
  · exact ((hbel.trans (hW.mono (by omega))).grown hg (by omega) (fun q hq => by have := hown.lt q hq; omega)).setCell (by simp) _
  · simp [World.setCell, Array.getElem?_modify, hm1]
  · simp [hcs]
  · refine ownsRow_setCell_below ?_ (by simp) _
    have e : (List.range (k + 1)).map (fun i => Value.pointer (some ⟨if i < k then p i else wr.heap.size, 0, none⟩)) = ((List.range k).map fun i => Value.pointer (some ⟨p i, 0, none⟩)) ++ [.pointer (some ⟨wr.heap.size, 0, none⟩)] := by
      rw [List.range_succ, List.map_append]
      congr 1
      · apply List.map_congr_left
        intro i hi
        simp at hi
        simp [hi]
      · simp
    rw [e]
    exact hown1
  · intro i hi
    by_cases e : i < k
    · obtain ⟨c, hc, hc0⟩ := hps i e
      refine ⟨c, ?_, hc0⟩
      have hplt : p i < wr.heap.size := (Array.getElem?_eq_some_iff.1 hc).1
      have hpm : p i ≠ m := by intro h; rw [h, hm] at hc; simp at hc
      simp only [e, if_true]
      rw [Deep.blk_setCell_other _ _ _ _ (by simpa using hpm), hg.block _ (by omega) ?_, hW.block _ hplt]
      · exact hc
      · intro h
        rcases hown.2 with ⟨hv, _⟩ | ⟨g0, cp, cu, hv, _, hg0, _⟩
        · rw [hv] at h; simp [Value.ownBlock] at h
        · rw [hv] at h
          simp [Value.ownBlock] at h
          rw [← h, hc] at hg0
          simp at hg0
    · obtain rfl : i = k := by omega
      refine ⟨C, ?_, hC⟩
      simp only [e, if_false]
      rw [Deep.blk_setCell_other _ _ _ _ (by simp; omega), hg.block _ (by omega) ?_]
      · exact hnew
      · intro h; have := hown.lt _ h.symm; omega

set_option maxHeartbeats 400000 in
theorem of_row (x : Addr) (len cap : Nat) (z : Nat → Int) (w : World) (hl : len ≤ 1048576) (hA : At w .i64 (some x) len z) :
    Calls Try.prog 12 #[.slice (some x) len cap] w fun e w' => e = .returned (.pointer (some ⟨w.heap.size, 0, none⟩)) ∧ Below w.heap.size w w' ∧ TxM w' w.heap.size len z := by
  obtain ⟨i0, hi, hz0, hz1, hz2⟩ := info_parts info58
  obtain ⟨Z, hZ, hzero⟩ := zero62
  have hZe : (Z = #[]) = False := by simp; intro h; simp [h] at hZ
  go_enter Try.func12, Try.ntmps12
  go_wp2
  go_loopw [4] (fun i wr => ∃ k : Nat, k ≤ len ∧ i = .int .i64 k ∧ Below w.heap.size w wr ∧ TxM wr w.heap.size k z) (fun i _ => len - (intOf i).toNat)
  case atStart =>
    refine ⟨0, by omega, rfl, (Below.refl _ _).alloc (Nat.le_refl _) _, .slice none 0 0, fun _ => 0, _, Deep.blk_alloc_new _ _, rfl, rfl, World.ownsRow_nil _ _ _ _, fun i hi => by omega⟩
  case round =>
    obtain ⟨k, hk, rfl, hbel, v, p, cur, hm, hcs, hc1, hown, hps⟩ := hrel
    by_cases hlt : k < len
    · obtain ⟨b, off, rfl, hc⟩ : ∃ b off, x = ⟨b, off, none⟩ ∧ ∀ i, i < len → w.cell? ⟨b, off + i, none⟩ = some (.int .i64 (z i)) := by
        rcases hA with h | ⟨b, off, h1, h2⟩
        · omega
        · exact ⟨b, off, by simpa using h1, h2⟩
      have hb : b < w.heap.size := World.block_lt_of_cell? w _ (hc k hlt)
      have c1 : wr.cell? ⟨b, off + k, none⟩ = some (.int .i64 (z k)) := (hbel.cell (by exact hb)).trans (hc k hlt)
      have c2 : wr.cell? ⟨w.heap.size, 1, none⟩ = some v := by simp [World.cell?, hm, hc1]
      have hmlt : w.heap.size < wr.heap.size := (Array.getElem?_eq_some_iff.1 hm).1
      have l1 : (0 : Int) ≤ (k : Int) := by omega
      have l2 : (k : Int) < (len : Int) := by omega
      have hC : (Z.setIfInBounds 0 (.int .i64 (z k)))[0]? = some (.int .i64 (z k)) := by simp [hZ]
      have HC := hide hC
      have HP := hide hps
      have HM := hide hm
      clear hc hA hC hps hm
      go_wp2
      go_region_law ((refine step_append_lies _ (by rfl) (.tmp 17) (.tmp 24) 52 (by rfl) (w.heap.size + 1) 58 i0 (.pointer none) 1 8 Try.underlying52 hi hz0 hz1 hz2 (by rfl) (by omega) v k _ (by rfl) (by exact (hown.alloc _).alloc _) ⟨wr.heap.size + 1, 0, none⟩ 1 1 [.pointer (some ⟨wr.heap.size, 0, none⟩)] (by rfl) (by rfl) (by exact new_cell _ _ _ _) (by simp [Value.oneCell']) (by omega) (by unfold maxLen; omega) (by omega) (by simp; omega) (wr.heap.size + 2) (by simp) ?_; intro g cap' w1 hown1 hgrow hat hlt1; have hm1 := keep_m (unhide HM) hown ((((Below.refl _ _).alloc (Nat.le_refl _) _).alloc (by simp) _).drew) hgrow; have c3 : w1.cell? ⟨w.heap.size, 1, none⟩ = some v := (by simp [World.cell?, hm1, hc1]); have c4 : w1.frozen? ⟨w.heap.size, 1, none⟩ = false := (by simp [World.frozen?, hm1])))
      all_goals
        have R := hide (tx_step (unhide HM) hcs hown (unhide HP) (unhide HC) hbel hown1 hgrow)
        clear hown1 hgrow hown HM HP HC hbel c1 c2 c3 c4 hm1 hat
        go_wp2
        go_roundw
        case rel => exact ⟨k + 1, by omega, by go_num, (unhide R).1, (unhide R).2⟩
        case measure => simp [intOf]; omega
    · go_wp2
      go_ret
      obtain rfl : k = len := by omega
      exact ⟨rfl, hbel, v, p, cur, hm, hcs, hc1, hown, hps⟩

theorem of_nil (z : Nat → Int) (w : World) :
    Calls Try.prog 12 #[.slice none 0 0] w fun e w' => e = .returned (.pointer (some ⟨w.heap.size, 0, none⟩)) ∧ Below w.heap.size w w' ∧ TxM w' w.heap.size 0 z := by
  go_enter Try.func12, Try.ntmps12
  go_wp2
  refine wp_loop_rounds 1 ?_
  rw [rounds_succ]
  go_wp2
  go_ret
  exact ⟨rfl, (Below.refl _ _).alloc (Nat.le_refl _) _, .slice none 0 0, fun _ => 0, _, Deep.blk_alloc_new _ _, rfl, rfl, World.ownsRow_nil _ _ _ _, fun i hi => by omega⟩

end Go.Proofs.Qxb6600149a.Tx
