/-
  The store's marks as they lie in memory: 'St': a storeFree at block s, whose three slices own rows of their own. What each store and each append does to it: a lemma a step, outside the walks.
-/
import Derived.Test.Qxb6600149aRows
import Derived.Test.Qxb6600149aSfP
import Derived.WalkKit
import Derived.WalkSpells
import Derived.Deep.AppendLies
import Derived.Deep.OwnRows
import Derived.Deep.QuietTactic
import Derived.BigQuiet
namespace Go.Proofs.Qxb6600149a.Sf
open Go.RowKit

theorem hide {q : Prop} (h : q) : Hid q := h
theorem unhide {q : Prop} (h : Hid q) : q := h

/-- The first n numbers of f, as cells. -/
def ints (k : IntKind) (f : Nat → Int) (n : Nat) : List Value := (List.range n).map fun i => .int k (f i)

theorem ints_get (k : IntKind) (f : Nat → Int) {n i : Nat} (h : i < n) : (ints k f n)[i]? = some (.int k (f i)) := by simp [ints, h]
theorem ints_congr (k : IntKind) {f f' : Nat → Int} {n : Nat} (h : ∀ i, i < n → f i = f' i) : ints k f n = ints k f' n := by
  unfold ints
  apply List.map_congr_left
  intro i hi
  simp at hi
  rw [h i hi]
theorem ints_snoc (k : IntKind) (f : Nat → Int) (n : Nat) (x : Int) : ints k f n ++ [.int k x] = ints k (fun i => if i < n then f i else x) (n + 1) := by
  unfold ints
  rw [List.range_succ, List.map_append]
  congr 1
  · apply List.map_congr_left
    intro i hi
    simp at hi
    simp [hi]
  · simp
theorem ints_set (k : IntKind) (f : Nat → Int) (n j : Nat) (x : Int) : (ints k f n).set j (.int k x) = ints k (fun i => if i = j then x else f i) n := by
  apply List.ext_getElem?
  intro i
  rw [List.getElem?_set]
  by_cases hi : i < n
  · rw [ints_get k _ hi]
    by_cases e : j = i
    · subst e; simp [ints, hi]
    · rw [if_neg e, ints_get k _ hi, if_neg (fun h => e h.symm)]
  · have : n ≤ i := by omega
    by_cases e : j = i
    · subst e; simp [ints, hi]
    · simp [ints, e, this]

/-- A storeFree at block s: the values of its three slices, their lengths and what they hold, and the count of rises. -/
structure St (w : World) (s : Nat) (vt vm vs : Value) (nt nm ns : Nat) (T M S : Nat → Int) (R : Int) : Prop where
  hs : w.heap[s]? = some (.cells #[vt, vm, vs, .int .u64 R] 40 (0, 0))
  ot : w.ownsRow (s + 1) 44 1 vt nt (ints .i16 T nt)
  om : w.ownsRow (s + 1) 44 1 vm nm (ints .i16 M nm)
  os : w.ownsRow (s + 1) 38 1 vs ns (ints .u64 S ns)
  ne : vt.ownBlock = none ∨ vt.ownBlock ≠ vm.ownBlock

section
variable {w : World} {s : Nat} {vt vm vs : Value} {nt nm ns : Nat} {T M S : Nat → Int} {R : Int}

theorem St.lt (h : St w s vt vm vs nt nm ns T M S R) : s < w.heap.size := (Array.getElem?_eq_some_iff.1 h.hs).1
theorem St.c0 (h : St w s vt vm vs nt nm ns T M S R) : w.cell? ⟨s, 0, none⟩ = some vt := by simp [World.cell?, h.hs]
theorem St.c1 (h : St w s vt vm vs nt nm ns T M S R) : w.cell? ⟨s, 1, none⟩ = some vm := by simp [World.cell?, h.hs]
theorem St.c2 (h : St w s vt vm vs nt nm ns T M S R) : w.cell? ⟨s, 2, none⟩ = some vs := by simp [World.cell?, h.hs]
theorem St.c3 (h : St w s vt vm vs nt nm ns T M S R) : w.cell? ⟨s, 3, none⟩ = some (.int .u64 R) := by simp [World.cell?, h.hs]
theorem St.fr (h : St w s vt vm vs nt nm ns T M S R) (i : Nat) : w.frozen? ⟨s, i, none⟩ = false := by simp [World.frozen?, h.hs]

/-- Rows of two element types lie apart. -/
theorem apart_types {w : World} {base base' : Nat} {e e' : TypeId} {v v' : Value} {n n' : Nat} {xs xs' : List Value} (h : w.ownsRow base e 1 v n xs) (h' : w.ownsRow base' e' 1 v' n' xs') (hne : e ≠ e') : v.ownBlock = none ∨ v.ownBlock ≠ v'.ownBlock := by
  rcases h.2 with ⟨rfl, _⟩ | ⟨g, cap, cur, rfl, _, hg, _⟩
  · exact .inl rfl
  · right
    intro e1
    rcases h'.2 with ⟨rfl, _⟩ | ⟨g', cap', cur', rfl, _, hg', _⟩
    · simp [Value.ownBlock] at e1
    · simp [Value.ownBlock] at e1
      subst e1
      rw [hg] at hg'
      simp at hg'
      exact hne hg'.2

theorem St.alloc (h : St w s vt vm vs nt nm ns T M S R) (o : Obj) : St (w.alloc o) s vt vm vs nt nm ns T M S R :=
  ⟨by rw [Deep.blk_alloc_lt _ _ _ h.lt]; exact h.hs, h.ot.alloc o, h.om.alloc o, h.os.alloc o, h.ne⟩
theorem St.drewN (h : St w s vt vm vs nt nm ns T M S R) (q : Nat) : St (w.drewN q) s vt vm vs nt nm ns T M S R := ⟨h.hs, h.ot, h.om, h.os, h.ne⟩
theorem St.drew (h : St w s vt vm vs nt nm ns T M S R) : St w.drew s vt vm vs nt nm ns T M S R := ⟨h.hs, h.ot, h.om, h.os, h.ne⟩

theorem St.congr {T' M' S' : Nat → Int} (h : St w s vt vm vs nt nm ns T M S R) (hT : ∀ i, i < nt → T i = T' i) (hM : ∀ i, i < nm → M i = M' i) (hS : ∀ i, i < ns → S i = S' i) : St w s vt vm vs nt nm ns T' M' S' R :=
  ⟨h.hs, by rw [← ints_congr .i16 hT]; exact h.ot, by rw [← ints_congr .i16 hM]; exact h.om, by rw [← ints_congr .u64 hS]; exact h.os, h.ne⟩

/-- The struct's own block stands behind an append to one of its rows. -/
theorem St.hs_grown {w1 : World} {row : Option Nat} (h : St w s vt vm vs nt nm ns T M S R) (hg : w.grownBy w1 row) (hr : ∀ k, row = some k → s + 1 ≤ k) : w1.heap[s]? = some (.cells #[vt, vm, vs, .int .u64 R] 40 (0, 0)) := by
  rw [hg.block s h.lt (fun e => by have := hr s e.symm; omega)]
  exact h.hs

theorem hs_set {w1 : World} {a b c d v : Value} {i : Nat} (h : w1.heap[s]? = some (.cells #[a, b, c, d] 40 (0, 0))) : (w1.setCell ⟨s, i, none⟩ v).heap[s]? = some (.cells (#[a, b, c, d].setIfInBounds i v) 40 (0, 0)) := by
  simp [World.setCell, Array.getElem?_modify, h]

/-- APPENDED TO THE MARKS. -/
theorem St.appM {w1 : World} {g cap : Nat} {x : Int} (h : St w s vt vm vs nt nm ns T M S R)
    (hown : w1.ownsRow (s + 1) 44 1 (.slice (some ⟨g, 0, none⟩) (nm + 1) cap) (nm + 1) (ints .i16 M nm ++ [.int .i16 x])) (hg : w.grownBy w1 vm.ownBlock) (hat : vm.ownBlock = some g ∨ g = w.heap.size) :
    St (w1.setCell ⟨s, 1, none⟩ (.slice (some ⟨g, 0, none⟩) (nm + 1) cap)) s vt (.slice (some ⟨g, 0, none⟩) (nm + 1) cap) vs nt (nm + 1) ns T (fun i => if i < nm then M i else x) S R := by
  refine ⟨?_, ?_, ?_, ?_, ?_⟩
  · rw [hs_set (h.hs_grown hg (fun k hk => (h.om.lt k hk).1))]; rfl
  · exact ownsRow_setCell_below (h.ot.kept hg h.ne) (by simp) _
  · rw [← ints_snoc]; exact ownsRow_setCell_below hown (by simp) _
  · exact ownsRow_setCell_below (h.os.kept hg (apart_types h.os h.om (by decide))) (by simp) _
  · by_cases hn : vt.ownBlock = none
    · exact .inl hn
    · right
      intro e
      rcases hat with e1 | e1
      · rcases h.ne with e2 | e2
        · exact hn e2
        · exact e2 (by rw [e, e1]; rfl)
      · obtain ⟨k, hk⟩ := Option.ne_none_iff_exists'.1 hn
        have h1 := (h.ot.lt k hk).2
        rw [hk] at e
        simp [Value.ownBlock] at e
        omega

/-- APPENDED TO THE COUNTS. -/
theorem St.appS {w1 : World} {g cap : Nat} {x : Int} (h : St w s vt vm vs nt nm ns T M S R)
    (hown : w1.ownsRow (s + 1) 38 1 (.slice (some ⟨g, 0, none⟩) (ns + 1) cap) (ns + 1) (ints .u64 S ns ++ [.int .u64 x])) (hg : w.grownBy w1 vs.ownBlock) :
    St (w1.setCell ⟨s, 2, none⟩ (.slice (some ⟨g, 0, none⟩) (ns + 1) cap)) s vt vm (.slice (some ⟨g, 0, none⟩) (ns + 1) cap) nt nm (ns + 1) T M (fun i => if i < ns then S i else x) R := by
  refine ⟨?_, ?_, ?_, ?_, h.ne⟩
  · rw [hs_set (h.hs_grown hg (fun k hk => (h.os.lt k hk).1))]; rfl
  · exact ownsRow_setCell_below (h.ot.kept hg (apart_types h.ot h.os (by decide))) (by simp) _
  · exact ownsRow_setCell_below (h.om.kept hg (apart_types h.om h.os (by decide))) (by simp) _
  · rw [← ints_snoc]; exact ownsRow_setCell_below hown (by simp) _

/-- APPENDED TO THE FIGURES. -/
theorem St.appT {w1 : World} {g cap : Nat} {x : Int} (h : St w s vt vm vs nt nm ns T M S R)
    (hown : w1.ownsRow (s + 1) 44 1 (.slice (some ⟨g, 0, none⟩) (nt + 1) cap) (nt + 1) (ints .i16 T nt ++ [.int .i16 x])) (hg : w.grownBy w1 vt.ownBlock) (hat : vt.ownBlock = some g ∨ g = w.heap.size) :
    St (w1.setCell ⟨s, 0, none⟩ (.slice (some ⟨g, 0, none⟩) (nt + 1) cap)) s (.slice (some ⟨g, 0, none⟩) (nt + 1) cap) vm vs (nt + 1) nm ns (fun i => if i < nt then T i else x) M S R := by
  have hne : vm.ownBlock = none ∨ vm.ownBlock ≠ vt.ownBlock := by
    rcases h.ne with e | e
    · by_cases e' : vm.ownBlock = none
      · exact .inl e'
      · exact .inr (by rw [e]; exact e')
    · exact .inr (fun h => e h.symm)
  refine ⟨?_, ?_, ?_, ?_, ?_⟩
  · rw [hs_set (h.hs_grown hg (fun k hk => (h.ot.lt k hk).1))]; rfl
  · rw [← ints_snoc]; exact ownsRow_setCell_below hown (by simp) _
  · exact ownsRow_setCell_below (h.om.kept hg hne) (by simp) _
  · exact ownsRow_setCell_below (h.os.kept hg (apart_types h.os h.ot (by decide))) (by simp) _
  · right
    intro e
    rcases hat with e1 | e1
    · rcases hne with e2 | e2
      · rw [e2] at e; simp [Value.ownBlock] at e
      · exact e2 (by rw [← e, e1]; rfl)
    · have h1 := (h.om.lt g (by rw [← e]; rfl)).2
      omega

/-- STORED INTO THE FIGURES. -/
theorem St.setT {g cap : Nat} (h : St w s (.slice (some ⟨g, 0, none⟩) nt cap) vm vs nt nm ns T M S R) (j : Nat) (x : Int) :
    St (w.setCell ⟨g, j, none⟩ (.int .i16 x)) s (.slice (some ⟨g, 0, none⟩) nt cap) vm vs nt nm ns (fun i => if i = j then x else T i) M S R := by
  have hg := (h.ot.stored j (.int .i16 x)).2
  have hne : vm.ownBlock = none ∨ vm.ownBlock ≠ some g := by
    rcases h.ne with e | e
    · simp [Value.ownBlock] at e
    · exact .inr (fun h => e h.symm)
  refine ⟨h.hs_grown hg (fun k hk => (h.ot.lt k hk).1), ?_, h.om.kept hg hne, h.os.kept hg (apart_types h.os h.ot (by decide)), h.ne⟩
  rw [← ints_set]
  exact (h.ot.stored j _).1

/-- STORED INTO THE MARKS. -/
theorem St.setM {g cap : Nat} (h : St w s vt (.slice (some ⟨g, 0, none⟩) nm cap) vs nt nm ns T M S R) (j : Nat) (x : Int) :
    St (w.setCell ⟨g, j, none⟩ (.int .i16 x)) s vt (.slice (some ⟨g, 0, none⟩) nm cap) vs nt nm ns T (fun i => if i = j then x else M i) S R := by
  have hg := (h.om.stored j (.int .i16 x)).2
  refine ⟨h.hs_grown hg (fun k hk => (h.om.lt k hk).1), h.ot.kept hg h.ne, ?_, h.os.kept hg (apart_types h.os h.om (by decide)), h.ne⟩
  rw [← ints_set]
  exact (h.om.stored j _).1

/-- STORED INTO THE COUNTS. -/
theorem St.setS {g cap : Nat} (h : St w s vt vm (.slice (some ⟨g, 0, none⟩) ns cap) nt nm ns T M S R) (j : Nat) (x : Int) :
    St (w.setCell ⟨g, j, none⟩ (.int .u64 x)) s vt vm (.slice (some ⟨g, 0, none⟩) ns cap) nt nm ns T M (fun i => if i = j then x else S i) R := by
  have hg := (h.os.stored j (.int .u64 x)).2
  refine ⟨h.hs_grown hg (fun k hk => (h.os.lt k hk).1), h.ot.kept hg (apart_types h.ot h.os (by decide)), h.om.kept hg (apart_types h.om h.os (by decide)), ?_, h.ne⟩
  rw [← ints_set]
  exact (h.os.stored j _).1

/-- THE RISES. -/
theorem St.setR (h : St w s vt vm vs nt nm ns T M S R) (x : Int) : St (w.setCell ⟨s, 3, none⟩ (.int .u64 x)) s vt vm vs nt nm ns T M S x :=
  ⟨by rw [hs_set h.hs]; rfl, ownsRow_setCell_below h.ot (by simp) _, ownsRow_setCell_below h.om (by simp) _, ownsRow_setCell_below h.os (by simp) _, h.ne⟩

/-! What a row that is not empty looks like, and its cells -/
theorem St.formT (h : St w s vt vm vs nt nm ns T M S R) (hn : 0 < nt) : ∃ g cap, vt = .slice (some ⟨g, 0, none⟩) nt cap ∧ s + 1 ≤ g ∧ nt ≤ cap ∧ cap ≤ maxLen := by
  rcases h.ot.2 with ⟨_, h0⟩ | ⟨g, cap, cur, hv, hb, _, h1, h2, _⟩
  · omega
  · exact ⟨g, cap, hv, hb, h1, h2⟩
theorem St.formM (h : St w s vt vm vs nt nm ns T M S R) (hn : 0 < nm) : ∃ g cap, vm = .slice (some ⟨g, 0, none⟩) nm cap ∧ s + 1 ≤ g ∧ nm ≤ cap := by
  rcases h.om.2 with ⟨_, h0⟩ | ⟨g, cap, cur, hv, hb, _, h1, _⟩
  · omega
  · exact ⟨g, cap, hv, hb, h1⟩
theorem St.formS (h : St w s vt vm vs nt nm ns T M S R) (hn : 0 < ns) : ∃ g cap, vs = .slice (some ⟨g, 0, none⟩) ns cap ∧ s + 1 ≤ g ∧ ns ≤ cap := by
  rcases h.os.2 with ⟨_, h0⟩ | ⟨g, cap, cur, hv, hb, _, h1, _⟩
  · omega
  · exact ⟨g, cap, hv, hb, h1⟩
theorem St.cellT {g cap : Nat} (h : St w s (.slice (some ⟨g, 0, none⟩) nt cap) vm vs nt nm ns T M S R) {i : Nat} (hi : i < nt) : w.cell? ⟨g, i, none⟩ = some (.int .i16 (T i)) := by
  rw [h.ot.cellAt i (by omega)]; exact ints_get _ _ hi
theorem St.cellM {g cap : Nat} (h : St w s vt (.slice (some ⟨g, 0, none⟩) nm cap) vs nt nm ns T M S R) {i : Nat} (hi : i < nm) : w.cell? ⟨g, i, none⟩ = some (.int .i16 (M i)) := by
  rw [h.om.cellAt i (by omega)]; exact ints_get _ _ hi
theorem St.cellS {g cap : Nat} (h : St w s vt vm (.slice (some ⟨g, 0, none⟩) ns cap) nt nm ns T M S R) {i : Nat} (hi : i < ns) : w.cell? ⟨g, i, none⟩ = some (.int .u64 (S i)) := by
  rw [h.os.cellAt i (by omega)]; exact ints_get _ _ hi

/-- Where the one element lies that is appended. -/
theorem new_cell (w : World) (x : Value) (t : TypeId) : ∀ j u, [x][j]? = some u → (w.alloc (.cells #[x] t)).cell? ((⟨w.heap.size, 0, none⟩ : Addr).add j) = some u := fun j u hu =>
  World.news_of_block (cs := #[x]) (Deep.blk_alloc_new w (.cells #[x] t)) j u (by simpa using hu)
end

end Go.Proofs.Qxb6600149a.Sf
