/-
  (*storeFree).set.
-/
import Derived.Test.Qxb6600149aSfB
import Derived.Deep.LoopGhost
import Derived.Deep.RegionHeld3
import Derived.Deep.RegionLaw
namespace Go.Proofs.Qxb6600149a.Sf
open Go.RowKit

theorem info44 : (Try.prog.info? 44).map (fun i => (i.zero, i.size, i.bytes)) = some (some (.int .i16 0), 1, 2) := by kernel_rfl
theorem info38 : (Try.prog.info? 38).map (fun i => (i.zero, i.size, i.bytes)) = some (some (.int .u64 0), 1, 8) := by kernel_rfl

/-- The marks as the pages' figures T, unknown past page n, and the blocks' counts S, 0 past theirs. -/
structure Ab (k n : Nat) (T S : Nat → Int) (R : Int) : Prop where
  hk : k ≤ 65536
  hn : n ≤ 65536
  unk : ∀ j, n ≤ j → T j = 32767
  fig : ∀ j, -32768 ≤ T j ∧ T j ≤ 32767
  zer : ∀ b, nbl n ≤ b → S b = 0
  cnt : ∀ b, 0 ≤ S b ∧ S b ≤ k
  ris : 0 ≤ R ∧ R ≤ k

/-- The struct's cells behind an append to one of its rows. -/
theorem St.after {w w1 : World} {s : Nat} {vt vm vs : Value} {nt nm ns : Nat} {T M S : Nat → Int} {R : Int} {row : Option Nat} (h : St w s vt vm vs nt nm ns T M S R) (hg : w.grownBy w1 row) (hr : row = vt.ownBlock ∨ row = vm.ownBlock ∨ row = vs.ownBlock) :
    w1.cell? ⟨s, 0, none⟩ = some vt ∧ w1.cell? ⟨s, 1, none⟩ = some vm ∧ w1.cell? ⟨s, 2, none⟩ = some vs ∧ w1.cell? ⟨s, 3, none⟩ = some (.int .u64 R) ∧ (∀ i, w1.frozen? ⟨s, i, none⟩ = false) ∧ s < w1.heap.size := by
  have k := h.hs_grown hg (fun k hk => by
    rcases hr with e | e | e
    · exact (h.ot.lt k (by rw [← e]; exact hk)).1
    · exact (h.om.lt k (by rw [← e]; exact hk)).1
    · exact (h.os.lt k (by rw [← e]; exact hk)).1)
  refine ⟨by simp [World.cell?, k], by simp [World.cell?, k], by simp [World.cell?, k], by simp [World.cell?, k], fun i => by simp [World.frozen?, k], (Array.getElem?_eq_some_iff.1 k).1⟩

theorem below_app {w wr w1 : World} {s i : Nat} {o : Obj} {row : Option Nat} {v : Value} (h : Below s w wr) (hs : s < wr.heap.size) (hg : (wr.alloc o).grownBy w1 row) (hr : ∀ k, row = some k → s + 1 ≤ k) : Below s w (w1.setCell ⟨s, i, none⟩ v) :=
  ((h.alloc (by omega) o).grown hg (by simp; omega) (fun k hk => by have := hr k hk; omega)).setCell (Nat.le_refl _) v

/-- A ROUND THAT BEGINS A BLOCK. -/
theorem roundA {W : World} {s l k n g1 cap1 : Nat} {vt vs : Value} {T M S : Nat → Int} {R : Int}
    (h : St W s vt (.slice (some ⟨g1, 0, none⟩) (nbl l + 1) cap1) vs (l + 1) (nbl l + 1) (nbl l + 1) (fun i => if i < l then T i else 32767) (fun i => if i < nbl l then M i else 32767) (fun i => if i < nbl l then S i else 0) R)
    (hr : l % 256 = 0) (hab : Ab k n T S R) (hl : n ≤ l) (hM : Marks T l M) :
    St (W.setCell ⟨g1, nbl l, none⟩ (.int .i16 32767)) s vt (.slice (some ⟨g1, 0, none⟩) (nbl l + 1) cap1) vs (l + 1) (nbl (l + 1)) (nbl (l + 1)) T (fun b => if b = l / 256 then 32767 else M b) S R ∧ Marks T (l + 1) (fun b => if b = l / 256 then 32767 else M b) := by
  obtain ⟨e1, e2⟩ := nbl_new hr
  refine ⟨?_, marks_grow hM (hab.unk l hl) (fun j => (hab.fig j).2)⟩
  rw [e1]
  refine (h.setM (nbl l) 32767).congr (fun i hi => ?_) (fun i hi => ?_) (fun i hi => ?_)
  · by_cases c : i < l
    · simp [c]
    · simp only [c, if_false]; exact (hab.unk i (by omega)).symm
  · rw [← e2]
    by_cases c : i = nbl l
    · simp [c]
    · simp only [c, if_false, show i < nbl l by omega, if_true]
  · by_cases c : i < nbl l
    · simp [c]
    · simp only [c, if_false]
      exact (hab.zer i (by have := nbl_mono hl; omega)).symm

/-- A ROUND INSIDE A BLOCK. -/
theorem roundB {W : World} {s l k n g1 cap1 : Nat} {vt vs : Value} {T M S : Nat → Int} {R : Int}
    (h : St W s vt (.slice (some ⟨g1, 0, none⟩) (nbl l) cap1) vs (l + 1) (nbl l) (nbl l) (fun i => if i < l then T i else 32767) M S R)
    (hr : l % 256 ≠ 0) (hab : Ab k n T S R) (hl : n ≤ l) (hM : Marks T l M) :
    St (W.setCell ⟨g1, nbl l - 1, none⟩ (.int .i16 32767)) s vt (.slice (some ⟨g1, 0, none⟩) (nbl l) cap1) vs (l + 1) (nbl (l + 1)) (nbl (l + 1)) T (fun b => if b = l / 256 then 32767 else M b) S R ∧ Marks T (l + 1) (fun b => if b = l / 256 then 32767 else M b) := by
  obtain ⟨e1, e2⟩ := nbl_old hr
  refine ⟨?_, marks_grow hM (hab.unk l hl) (fun j => (hab.fig j).2)⟩
  rw [e1]
  refine (h.setM (nbl l - 1) 32767).congr (fun i hi => ?_) (fun i hi => ?_) (fun i hi => rfl)
  · by_cases c : i < l
    · simp [c]
    · simp only [c, if_false]; exact (hab.unk i (by omega)).symm
  · rw [show nbl l - 1 = l / 256 by omega]

theorem great_max {f : Nat → Int} {b lo k l : Nat} {m : Int} (h : Great f lo k m) (h1 : lo = b * 256) (h2 : lo + k = min l (b * 256 + 256)) : IsMax f l b m := by
  obtain ⟨⟨j, a1, a2⟩, hall⟩ := h
  refine ⟨⟨lo + j, by omega, by omega, by omega, a2⟩, fun j b1 b2 b3 => ?_⟩
  have := hall (j - lo) (by omega)
  rw [show lo + (j - lo) = j by omega] at this
  exact this

/-- The struct behind lift. -/
theorem St.lifted {W w' : World} {s gm cm b : Nat} {vt vs : Value} {nt nm ns : Nat} {T M S : Nat → Int} {R m : Int} (h : St W s vt (.slice (some ⟨gm, 0, none⟩) nm cm) vs nt nm ns T M S R)
    (hw : w' = W ∧ m = M b ∨ w' = W.setCell ⟨gm, b, none⟩ (.int .i16 m)) : St w' s vt (.slice (some ⟨gm, 0, none⟩) nm cm) vs nt nm ns T (fun x => if x = b then m else M x) S R := by
  rcases hw with ⟨rfl, rfl⟩ | rfl
  · refine h.congr (fun _ _ => rfl) (fun x _ => ?_) (fun _ _ => rfl)
    by_cases e : x = b
    · simp [e]
    · simp [e]
  · exact h.setM b m

theorem below_lifted {w W w' : World} {s gm b : Nat} {m mb : Int} (h : Below s w W) (hg : s ≤ gm) (hw : w' = W ∧ m = mb ∨ w' = W.setCell ⟨gm, b, none⟩ (.int .i16 m)) : Below s w w' := by
  rcases hw with ⟨rfl, rfl⟩ | rfl
  · exact h
  · exact h.setCell hg _

theorem sets_eq (S : Nat → Int) (b x : Nat) : (if x = b then S b + 1 else S x) = (if x = b then S x + 1 else S x) := by
  by_cases e : x = b
  · subst e; rfl
  · simp [e]

theorem marks_of {T M : Nat → Int} {l i b lo k : Nat} {t m : Int} (hM : Marks T l M) (hi : i < l) (hb : i / 256 = b) (hlo : lo = b * 256) (hk : lo + k = min l (b * 256 + 256))
    (hL : Lifts (fun j => if j = i then t else T j) lo k (M b) (T i) t m) : Marks (fun j => if j = i then t else T j) l (fun x => if x = b then m else M x) := by
  subst hb
  exact marks_set hM hi hL.1 (fun h1 h2 => great_max (hL.2.1 h1 h2) hlo hk) hL.2.2

/-- The rises behind a call of set on page i, whose figure was T i. -/
def riseTo (T : Nat → Int) (i : Nat) (t R : Int) : Int := if T i < t then R + 1 else R

/-- WHAT A CALL OF set LEAVES: nothing below block s has turned; the figures, counts and rises as they must be; each mark its block's greatest figure. -/
def SetPost (s : Nat) (w : World) (n n' : Nat) (t : Int) (T S : Nat → Int) (R : Int) (w' : World) : Prop := Below s w w' ∧
  ∃ vt vm vs M', St w' s vt vm vs (max n n') (nbl (max n n')) (nbl (max n n')) (fun j => if j = n' - 1 then t else T j) M' (fun b => if b = (n' - 1) / 256 then S b + 1 else S b) (riseTo T (n' - 1) t R) ∧
    Marks (fun j => if j = n' - 1 then t else T j) (max n n') M'

/-- One call of set more. -/
theorem Ab.step {k n n' : Nat} {T S : Nat → Int} {R t : Int} (h : Ab k n T S R) (h1 : 1 ≤ n') (h2 : n' ≤ 65536) (hk : k + 1 ≤ 65536) (ht : -32768 ≤ t ∧ t ≤ 32767) :
    Ab (k + 1) (max n n') (fun j => if j = n' - 1 then t else T j) (fun b => if b = (n' - 1) / 256 then S b + 1 else S b) (riseTo T (n' - 1) t R) := by
  refine ⟨hk, by have := h.hn; omega, fun j hj => ?_, fun j => ?_, fun b hb => ?_, fun b => ?_, ?_⟩
  · have e : ¬ j = n' - 1 := by omega
    simp only [e, if_false]
    exact h.unk j (by omega)
  · by_cases e : j = n' - 1
    · simp only [e, if_true]; exact ht
    · simp only [e, if_false]; exact h.fig j
  · have e : ¬ b = (n' - 1) / 256 := by unfold nbl at hb; omega
    simp only [e, if_false]
    exact h.zer b (by have := nbl_mono (show n ≤ max n n' by omega); omega)
  · have := h.cnt b
    by_cases e : b = (n' - 1) / 256
    · simp only [← e, if_true]; omega
    · simp only [e, if_false]; omega
  · have := h.ris
    unfold riseTo
    split <;> omega

set_option maxHeartbeats 2000000 in
theorem set33 (s k n n' : Nat) (t : Int) (vt vm vs : Value) (T M S : Nat → Int) (R : Int) (w : World)
    (hst : St w s vt vm vs n (nbl n) (nbl n) T M S R) (hM : Marks T n M) (hab : Ab k n T S R) (h1 : 1 ≤ n') (h2 : n' ≤ 65536) :
    Calls Try.prog 33 #[.pointer (some ⟨s, 0, none⟩), .int .u32 n', .int .i16 t] w fun e w' => e = .returned (.tuple #[]) ∧ SetPost s w n n' t T S R w' := by
  obtain ⟨i, rfl⟩ : ∃ i, n' = i + 1 := ⟨n' - 1, by omega⟩
  obtain ⟨i44, hi44, hz44, hs44, hb44⟩ := info_parts info44
  obtain ⟨i38, hi38, hz38, hs38, hb38⟩ := info_parts info38
  have hnn := hab.hn
  have HAB := hide hab
  clear hab
  go_enter Try.func33, Try.ntmps33
  go_wp2
  go_loopg [9] (max n (i + 1) - n) (fun gk _ wr => ∃ l vt vm vs M', n ≤ l ∧ l ≤ max n (i + 1) ∧ gk = max n (i + 1) - l ∧ St wr s vt vm vs l (nbl l) (nbl l) T M' S R ∧ Marks T l M' ∧ Below s w wr)
  case atStart => exact ⟨n, vt, vm, vs, M, by omega, by omega, rfl, hst, hM, Below.refl _ _⟩
  case round =>
    clear hst hM vt vm vs M
    obtain ⟨l, vt, vm, vs, M, hl1, hl2, rfl, hst, hM, hbel⟩ := hrel
    by_cases hlt : l < i + 1
    · have c0 := hst.c0
      have c1 := hst.c1
      have c2 := hst.c2
      have hlen : ∃ a cap, vt = .slice a l cap := by
        rcases hst.ot.2 with ⟨h, h0⟩ | ⟨g, cap, cur, h, _⟩
        · exact ⟨none, 0, by rw [h, h0]⟩
        · exact ⟨_, cap, h⟩
      obtain ⟨at0, ct0, rfl⟩ := hlen
      have HST := hide hst
      have HM := hide hM
      clear hst hM
      have hslt := (unhide HST).lt
      by_cases hr : l % 256 = 0
      · go_wp2_with (first
          | (at_builtin; refine wpList_append_lies _ rfl (.tmp 28) (.tmp 29) 32 rfl (s + 1) 44 i44 (.int .i16 0) 1 2 Try.underlying32 hi44 hz44 hs44 hb44 rfl (by decide) vm (nbl l) _ rfl ((unhide HST).om.alloc _) ⟨wr.heap.size, 0, none⟩ 1 1 [.int .i16 32767] rfl rfl (new_cell _ _ _) (by simp [Value.oneCell']) (by decide) (by unfold maxLen nbl; omega) (by unfold nbl; omega) (by simp; omega) (wr.heap.size + 1) (by simp) ?_; intro g1 cap1 w1 hown1 hgrow1 hat1 hlt1; have ST1 := hide (((unhide HST).alloc _).appM hown1 hgrow1 (by simpa using hat1)); have BL1 := hide (below_app (i := 1) (v := .slice (some ⟨g1, 0, none⟩) (nbl l + 1) cap1) hbel hslt hgrow1 (fun k hk => ((unhide HST).om.lt k hk).1)); obtain ⟨a0, a1, a2, a3, af, al⟩ := ((unhide HST).alloc _).after hgrow1 (.inr (.inl rfl)); clear hown1 hgrow1 hat1)
          | (at_builtin; refine wpList_append_lies _ rfl (.tmp 37) (.tmp 38) 37 rfl (s + 1) 38 i38 (.int .u64 0) 1 8 Try.underlying37 hi38 hz38 hs38 hb38 rfl (by decide) vs (nbl l) _ rfl ((unhide ST1).os.alloc _) ⟨w1.heap.size, 0, none⟩ 1 1 [.int .u64 0] rfl rfl (by simpa using new_cell (w1.setCell ⟨s, 1, none⟩ (.slice (some ⟨g1, 0, none⟩) (nbl l + 1) cap1)) (.int .u64 0) 38) (by simp [Value.oneCell']) (by decide) (by unfold maxLen nbl; omega) (by unfold nbl; omega) (by simp; omega) (w1.heap.size + 1) (by simp) ?_; intro g2 cap2 w2 hown2 hgrow2 hat2 hlt2; have ST2 := hide (((unhide ST1).alloc _).appS hown2 hgrow2); have BL2 := hide (below_app (i := 2) (v := .slice (some ⟨g2, 0, none⟩) (nbl l + 1) cap2) (unhide BL1) (unhide ST1).lt hgrow2 (fun k hk => ((unhide ST1).os.lt k hk).1)); obtain ⟨b0, b1, b2, b3, bf, bl⟩ := ((unhide ST1).alloc _).after hgrow2 (.inr (.inr rfl)))
          | (at_builtin; refine wpList_append_lies _ rfl (.tmp 46) (.tmp 47) 32 rfl (s + 1) 44 i44 (.int .i16 0) 1 2 Try.underlying32 hi44 hz44 hs44 hb44 rfl (by decide) (.slice at0 l ct0) l _ rfl ((unhide ST2).ot.alloc _) ⟨w2.heap.size, 0, none⟩ 1 1 [.int .i16 32767] rfl rfl (by simpa using new_cell (w2.setCell ⟨s, 2, none⟩ (.slice (some ⟨g2, 0, none⟩) (nbl l + 1) cap2)) (.int .i16 32767) 44) (by simp [Value.oneCell']) (by decide) (by unfold maxLen; omega) (by omega) (by simp; omega) (w2.heap.size + 1) (by simp) ?_; intro g3 cap3 w3 hown3 hgrow3 hat3 hlt3; have ST3 := hide (((unhide ST2).alloc _).appT hown3 hgrow3 (by simpa using hat3)); have BL3 := hide (below_app (i := 0) (v := .slice (some ⟨g3, 0, none⟩) (l + 1) cap3) (unhide BL2) (unhide ST2).lt hgrow3 (fun k hk => ((unhide ST2).ot.lt k hk).1)); obtain ⟨e0, e1, e2, e3, ef, el⟩ := ((unhide ST2).alloc _).after hgrow3 (.inl rfl)))
        obtain ⟨W, hW⟩ : ∃ W, W = w3.setCell ⟨s, 0, none⟩ (.slice (some ⟨g3, 0, none⟩) (l + 1) cap3) := ⟨_, rfl⟩
        rw [← hW]
        rw [← hW] at ST3 BL3
        clear hW
        have f1 := (unhide ST3).c1
        have f2 := (unhide ST3).cellM (show nbl l < nbl l + 1 by omega)
        have f3 := (unhide ST3).om.frozenAt (nbl l)
        have hnb : nbl l ≤ 257 := by unfold nbl; omega
        clear b0 b1 b2 b3 bf bl e0 e1 e2 e3 ef el a0 a1 a2 a3 af al hown2 hown3 hat2 hat3 hgrow2 hgrow3 ST1 ST2 BL1 BL2
        go_region
        go_wp2
        have RA := roundA (unhide ST3) hr (unhide HAB) hl1 (unhide HM)
        go_roundg (max n (i + 1) - (l + 1))
        case measure => omega
        have hg1 : s ≤ g1 := by have := (unhide ST3).om.lt g1 rfl; omega
        case rel => exact ⟨l + 1, _, _, _, _, by omega, by omega, rfl, RA.1.drew, RA.2, ((unhide BL3).setCell (p := ⟨g1, nbl l, none⟩) hg1 _).drew⟩
      · obtain ⟨gm, cm, rfl, hgm, hcm⟩ := (unhide HST).formM (show 0 < nbl l by unfold nbl; omega)
        go_wp2_with (at_builtin; refine wpList_append_lies _ rfl (.tmp 46) (.tmp 47) 32 rfl (s + 1) 44 i44 (.int .i16 0) 1 2 Try.underlying32 hi44 hz44 hs44 hb44 rfl (by decide) (.slice at0 l ct0) l _ rfl ((unhide HST).ot.alloc _) ⟨wr.heap.size, 0, none⟩ 1 1 [.int .i16 32767] rfl rfl (new_cell _ _ _) (by simp [Value.oneCell']) (by decide) (by unfold maxLen; omega) (by omega) (by simp; omega) (wr.heap.size + 1) (by simp) ?_; intro g3 cap3 w3 hown3 hgrow3 hat3 hlt3; have ST3 := hide (((unhide HST).alloc _).appT hown3 hgrow3 (by simpa using hat3)); have BL3 := hide (below_app (i := 0) (v := .slice (some ⟨g3, 0, none⟩) (l + 1) cap3) hbel hslt hgrow3 (fun k hk => ((unhide HST).ot.lt k hk).1)); obtain ⟨e0, e1, e2, e3, ef, el⟩ := ((unhide HST).alloc _).after hgrow3 (.inl rfl))
        obtain ⟨W, hW⟩ : ∃ W, W = w3.setCell ⟨s, 0, none⟩ (.slice (some ⟨g3, 0, none⟩) (l + 1) cap3) := ⟨_, rfl⟩
        rw [← hW]
        rw [← hW] at ST3 BL3
        clear hW
        obtain ⟨nb, hnb0⟩ : ∃ nb, nbl l = nb + 1 := ⟨nbl l - 1, by unfold nbl; omega⟩
        have f1 : W.cell? ⟨s, 1, none⟩ = some (.slice (some ⟨gm, 0, none⟩) (nb + 1) cm) := by rw [← hnb0]; exact (unhide ST3).c1
        have f2 : W.cell? ⟨gm, nb, none⟩ = some (.int .i16 (M nb)) := (unhide ST3).cellM (show nb < nbl l by omega)
        have f3 : W.frozen? ⟨gm, nb, none⟩ = false := (unhide ST3).om.frozenAt nb
        have hnb : nb ≤ 257 := by unfold nbl at hnb0; omega
        have HN := hide hnb0
        clear hnb0 c0 c1 c2 e0 e1 e2 e3 ef el hown3 hat3 hgrow3
        go_region
        go_wp2
        have RB := roundB (unhide ST3) hr (unhide HAB) hl1 (unhide HM)
        have e5 : nbl l - 1 = nb := by have := unhide HN; omega
        rw [e5] at RB
        have hg1 : s ≤ gm := by omega
        go_roundg (max n (i + 1) - (l + 1))
        case measure => omega
        case rel => exact ⟨l + 1, _, _, _, _, by omega, by omega, rfl, RB.1.drew, RB.2, ((unhide BL3).setCell (p := ⟨gm, nb, none⟩) hg1 _).drew⟩
    · have hlm : l = max n (i + 1) := by omega
      obtain ⟨gt, ct, rfl, hgt, hct, hctm⟩ := hst.formT (by omega)
      obtain ⟨gm, cm, rfl, hgm, hcm⟩ := hst.formM (show 0 < nbl l by unfold nbl; omega)
      obtain ⟨gs, cs, rfl, hgs, hcs⟩ := hst.formS (show 0 < nbl l by unfold nbl; omega)
      have c0 := hst.c0
      have c1 := hst.cellT (show i < l by omega)
      have c2 := hst.ot.frozenAt i
      have hil : i < l := by omega
      have HLM := hide hlm
      have HST := hide hst
      have HM := hide hM
      clear hlm hst hM
      go_wp2_with fail
      obtain ⟨W, hW⟩ : ∃ W, W = wr.setCell ⟨gt, i, none⟩ (.int .i16 t) := ⟨_, rfl⟩
      have ST1 := hide ((unhide HST).setT i t)
      have BL1 := hide (hbel.setCell (p := ⟨gt, i, none⟩) (show s ≤ gt by omega) (.int .i16 t))
      rw [← hW]
      rw [← hW] at ST1 BL1
      clear hW
      obtain ⟨b, hb⟩ : ∃ b, i / 256 = b := ⟨_, rfl⟩
      have hb' : ((i : Int) / 256) = (b : Int) := by omega
      rw [hb']
      have hb1 : b * 256 ≤ i := by omega
      have hb2 : i < b * 256 + 256 := by omega
      have hb3 : b < nbl l := by unfold nbl; omega
      have HB := hide hb
      clear hb hb' c0 c1 c2
      have k0 := (unhide ST1).c0
      have k1 := (unhide ST1).c1
      have k2 := (unhide ST1).cellM hb3
      have k3 := (unhide ST1).om.frozenAt b
      have i1 : (b : Int) < (nbl l : Int) := by omega
      have i2 : (0 : Int) ≤ (b : Int) := by omega
      have i3 : b ≤ 255 := by omega
      obtain ⟨lo, hlo⟩ : ∃ lo, lo = b * 256 := ⟨_, rfl⟩
      obtain ⟨hi, hhi⟩ : ∃ hi, hi = b * 256 + 256 := ⟨_, rfl⟩
      have r1 : IntKind.i64.wrap ((b : Int) * 256) = (lo : Int) := by rw [IntWalk.i64_in _ ⟨by omega, by omega⟩]; omega
      have r2 : IntKind.i64.wrap ((b : Int) + 1) = (b : Int) + 1 := IntWalk.i64_in _ ⟨by omega, by omega⟩
      have r3 : IntKind.i64.wrap (((b : Int) + 1) * 256) = (hi : Int) := by rw [IntWalk.i64_in _ ⟨by omega, by omega⟩]; omega
      have q0 : (0 : Int) ≤ (lo : Int) := by omega
      have q5 : ¬ ct = lo := by omega
      have HLO := hide hlo
      have HHI := hide hhi
      by_cases hmin : hi < l
      · have q1 : (hi : Int) < (l : Int) := by omega
        have q3 : (lo : Int) ≤ (hi : Int) := by omega
        have q4 : (hi : Int) ≤ (ct : Int) := by omega
        have HCL := hide (lift34 gm b gt lo (hi - lo) (ct - lo) (fun j => if j = i then t else T j) (M b) (T i) t W.drew (by omega) (by omega) k2 k3 (fun j hj => (unhide ST1).cellT (by omega)))
        have HMM := hide (fun m (hL : Lifts (fun j => if j = i then t else T j) lo (hi - lo) (M b) (T i) t m) => marks_of (unhide HM) hil (unhide HB) (unhide HLO) (show lo + (hi - lo) = min l (b * 256 + 256) by omega) hL)
        clear hlo hhi k2 k3 HST
        go_region_held3 (fun w' => w'.cell? ⟨s, 0, none⟩ = some (.slice (some ⟨gt, 0, none⟩) l ct) ∧ w'.cell? ⟨s, 1, none⟩ = some (.slice (some ⟨gm, 0, none⟩) (nbl l) cm)) (go_keep)
          ((go_at_call 34; refine (unhide HCL).mono ?_; rintro e w2 ⟨rfl, m, hL, hw⟩; have ST2 := hide ((unhide ST1).drew.lifted hw); have BL2 := hide (below_lifted (unhide BL1).drew (show s ≤ gm by omega) hw); have HL := hide hL; clear hw hL; have j0 := (unhide ST2).c0; have j1 := (unhide ST2).c1))
        have j2 := (unhide ST2).c2
        have j3 := (unhide ST2).cellS hb3
        have j4 := (unhide ST2).os.frozenAt b
        have ST3 := hide ((unhide ST2).setS b (S b + 1))
        have BL3 := hide ((unhide BL2).setCell (p := ⟨gs, b, none⟩) (show s ≤ gs by omega) (.int .u64 (S b + 1)))
        have j5 := (unhide ST3).c3
        have j6 := (unhide ST3).fr 3
        have sb := (unhide HAB).cnt b
        have rb := (unhide HAB).ris
        have kb := (unhide HAB).hk
        by_cases hti : T i < t
        · go_wp2
          go_end0
          refine ⟨rfl, (unhide BL3).setCell (p := ⟨s, 3, none⟩) (Nat.le_refl _) _, .slice (some ⟨gt, 0, none⟩) l ct, .slice (some ⟨gm, 0, none⟩) (nbl l) cm, .slice (some ⟨gs, 0, none⟩) (nbl l) cs, fun x => if x = b then m else M x, ?_, ?_⟩
          · rw [Nat.add_sub_cancel, ← unhide HLM, unhide HB, riseTo, if_pos hti]
            exact ((unhide ST3).setR (R + 1)).congr (fun _ _ => rfl) (fun _ _ => rfl) (fun x _ => sets_eq S b x)
          · rw [Nat.add_sub_cancel, ← unhide HLM]
            exact unhide HMM m (unhide HL)
        · go_wp2
          go_end0
          refine ⟨rfl, unhide BL3, .slice (some ⟨gt, 0, none⟩) l ct, .slice (some ⟨gm, 0, none⟩) (nbl l) cm, .slice (some ⟨gs, 0, none⟩) (nbl l) cs, fun x => if x = b then m else M x, ?_, ?_⟩
          · rw [Nat.add_sub_cancel, ← unhide HLM, unhide HB, riseTo, if_neg (by omega)]
            exact (unhide ST3).congr (fun _ _ => rfl) (fun _ _ => rfl) (fun x _ => sets_eq S b x)
          · rw [Nat.add_sub_cancel, ← unhide HLM]
            exact unhide HMM m (unhide HL)
      · have q1 : ¬ (hi : Int) < (l : Int) := by omega
        have q3 : (lo : Int) ≤ (l : Int) := by omega
        have q4 : (l : Int) ≤ (ct : Int) := by omega
        have HCL := hide (lift34 gm b gt lo (l - lo) (ct - lo) (fun j => if j = i then t else T j) (M b) (T i) t W.drew (by omega) (by omega) k2 k3 (fun j hj => (unhide ST1).cellT (by omega)))
        have HMM := hide (fun m (hL : Lifts (fun j => if j = i then t else T j) lo (l - lo) (M b) (T i) t m) => marks_of (unhide HM) hil (unhide HB) (unhide HLO) (show lo + (l - lo) = min l (b * 256 + 256) by omega) hL)
        clear hlo hhi k2 k3 HST
        go_region_held3 (fun w' => w'.cell? ⟨s, 0, none⟩ = some (.slice (some ⟨gt, 0, none⟩) l ct) ∧ w'.cell? ⟨s, 1, none⟩ = some (.slice (some ⟨gm, 0, none⟩) (nbl l) cm)) (go_keep)
          ((go_at_call 34; refine (unhide HCL).mono ?_; rintro e w2 ⟨rfl, m, hL, hw⟩; have ST2 := hide ((unhide ST1).drew.lifted hw); have BL2 := hide (below_lifted (unhide BL1).drew (show s ≤ gm by omega) hw); have HL := hide hL; clear hw hL; have j0 := (unhide ST2).c0; have j1 := (unhide ST2).c1))
        have j2 := (unhide ST2).c2
        have j3 := (unhide ST2).cellS hb3
        have j4 := (unhide ST2).os.frozenAt b
        have ST3 := hide ((unhide ST2).setS b (S b + 1))
        have BL3 := hide ((unhide BL2).setCell (p := ⟨gs, b, none⟩) (show s ≤ gs by omega) (.int .u64 (S b + 1)))
        have j5 := (unhide ST3).c3
        have j6 := (unhide ST3).fr 3
        have sb := (unhide HAB).cnt b
        have rb := (unhide HAB).ris
        have kb := (unhide HAB).hk
        by_cases hti : T i < t
        · go_wp2
          go_end0
          refine ⟨rfl, (unhide BL3).setCell (p := ⟨s, 3, none⟩) (Nat.le_refl _) _, .slice (some ⟨gt, 0, none⟩) l ct, .slice (some ⟨gm, 0, none⟩) (nbl l) cm, .slice (some ⟨gs, 0, none⟩) (nbl l) cs, fun x => if x = b then m else M x, ?_, ?_⟩
          · rw [Nat.add_sub_cancel, ← unhide HLM, unhide HB, riseTo, if_pos hti]
            exact ((unhide ST3).setR (R + 1)).congr (fun _ _ => rfl) (fun _ _ => rfl) (fun x _ => sets_eq S b x)
          · rw [Nat.add_sub_cancel, ← unhide HLM]
            exact unhide HMM m (unhide HL)
        · go_wp2
          go_end0
          refine ⟨rfl, unhide BL3, .slice (some ⟨gt, 0, none⟩) l ct, .slice (some ⟨gm, 0, none⟩) (nbl l) cm, .slice (some ⟨gs, 0, none⟩) (nbl l) cs, fun x => if x = b then m else M x, ?_, ?_⟩
          · rw [Nat.add_sub_cancel, ← unhide HLM, unhide HB, riseTo, if_neg (by omega)]
            exact (unhide ST3).congr (fun _ _ => rfl) (fun _ _ => rfl) (fun x _ => sets_eq S b x)
          · rw [Nat.add_sub_cancel, ← unhide HLM]
            exact unhide HMM m (unhide HL)

theorem set21 (s k n n' : Nat) (t : Int) (vt vm vs : Value) (T M S : Nat → Int) (R : Int) (w : World)
    (hst : St w s vt vm vs n (nbl n) (nbl n) T M S R) (hM : Marks T n M) (hab : Ab k n T S R) (h1 : 1 ≤ n') (h2 : n' ≤ 65536) :
    Calls Try.prog 21 #[.pointer (some ⟨s, 0, none⟩), .int .u32 n', .int .i16 t] w fun e w' => e = .returned (.tuple #[]) ∧ SetPost s w n n' t T S R w' := by
  have H := hide (set33 s k n n' t vt vm vs T M S R w hst hM hab h1 h2)
  clear hst hM hab h1 h2
  go_enter Try.func21, Try.ntmps21
  go_wp2_with fail
  refine (unhide H).mono ?_
  rintro e w1 ⟨rfl, h1⟩
  have H1 := hide h1
  clear h1
  go_wp2
  go_end0
  exact ⟨rfl, unhide H1⟩

end Go.Proofs.Qxb6600149a.Sf
