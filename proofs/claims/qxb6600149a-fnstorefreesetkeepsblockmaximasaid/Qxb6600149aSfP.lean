/-
  The plain law of the store's marks: no Go in sight. Blocks of 256 pages; 'IsMax T n b m': m is the greatest figure of block b among the first n pages.
-/
import Derived.Tactics
namespace Go.Proofs.Qxb6600149a.Sf

/-- How many blocks n pages begin. -/
def nbl (n : Nat) : Nat := (n + 255) / 256

def IsMax (T : Nat → Int) (n b : Nat) (m : Int) : Prop :=
  (∃ j, b * 256 ≤ j ∧ j < n ∧ j < b * 256 + 256 ∧ T j = m) ∧ ∀ j, b * 256 ≤ j → j < n → j < b * 256 + 256 → T j ≤ m

/-- Each block's mark is the greatest figure of its pages. -/
def Marks (T : Nat → Int) (n : Nat) (M : Nat → Int) : Prop := ∀ b, b < nbl n → IsMax T n b (M b)

/-- The figures lie in the range of an int16. -/
def Fig (T : Nat → Int) : Prop := ∀ j, -32768 ≤ T j ∧ T j ≤ 32767

/-- T as far as page n, unknown behind it. -/
def ext (T : Nat → Int) (n : Nat) (j : Nat) : Int := if j < n then T j else 32767

theorem nbl_mono {a b : Nat} (h : a ≤ b) : nbl a ≤ nbl b := by unfold nbl; omega
theorem lt_nbl {n i : Nat} (h : i < n) : i / 256 < nbl n := by unfold nbl; omega

theorem nbl_new {l : Nat} (h : l % 256 = 0) : nbl (l + 1) = nbl l + 1 ∧ nbl l = l / 256 := by unfold nbl; omega
theorem nbl_old {l : Nat} (h : l % 256 ≠ 0) : nbl (l + 1) = nbl l ∧ nbl l = l / 256 + 1 := by unfold nbl; omega

theorem IsMax.congr {T T' : Nat → Int} {n n' b : Nat} {m : Int} (h : IsMax T n b m) (h1 : ∀ j, b * 256 ≤ j → j < b * 256 + 256 → (j < n ↔ j < n')) (h2 : ∀ j, b * 256 ≤ j → j < n → j < b * 256 + 256 → T' j = T j) : IsMax T' n' b m := by
  obtain ⟨⟨j, a1, a2, a3, a4⟩, hall⟩ := h
  refine ⟨⟨j, a1, (h1 j a1 a3).1 a2, a3, (h2 j a1 a2 a3).trans a4⟩, fun j b1 b2 b3 => ?_⟩
  have b2' := (h1 j b1 b3).2 b2
  rw [h2 j b1 b2' b3]
  exact hall j b1 b2' b3

theorem ext_same (T : Nat → Int) {n l j : Nat} (h : n ≤ l) : ext (ext T n) l j = ext T n j := by
  unfold ext; by_cases a : j < l <;> by_cases b : j < n <;> simp [a, b]; omega

/-- ONE PAGE MORE, which is unknown: its block's mark is unknown. -/
theorem marks_grow {T M : Nat → Int} {l : Nat} (hM : Marks T l M) (hT : T l = 32767) (hle : ∀ j, T j ≤ 32767) : Marks T (l + 1) (fun b => if b = l / 256 then 32767 else M b) := by
  intro b hb
  by_cases e : b = l / 256
  · simp only [e, if_true]
    exact ⟨⟨l, by omega, by omega, by omega, hT⟩, fun j _ _ _ => hle j⟩
  · simp only [e, if_false]
    have hb' : b < nbl l := by
      by_cases h : l % 256 = 0
      · have := nbl_new h; omega
      · have := nbl_old h; omega
    refine (hM b hb').congr (fun j h1 h2 => ?_) (fun _ _ _ _ => rfl)
    unfold nbl at hb'
    omega

/-- The mark of a block of which one figure has gone from was to t. -/
theorem marks_set {T M : Nat → Int} {n i : Nat} {t m : Int} (hM : Marks T n M) (hi : i < n)
    (h1 : M (i / 256) ≤ t → m = t) (h2 : ¬ M (i / 256) ≤ t → T i = M (i / 256) → IsMax (fun j => if j = i then t else T j) n (i / 256) m) (h3 : ¬ M (i / 256) ≤ t → ¬ T i = M (i / 256) → m = M (i / 256)) :
    Marks (fun j => if j = i then t else T j) n (fun b => if b = i / 256 then m else M b) := by
  intro b hb
  by_cases e : b = i / 256
  · simp only [e, if_true]
    obtain ⟨⟨j, a1, a2, a3, a4⟩, hall⟩ := hM (i / 256) (lt_nbl hi)
    by_cases c1 : M (i / 256) ≤ t
    · rw [h1 c1]
      refine ⟨⟨i, by omega, hi, by omega, by simp⟩, fun j b1 b2 b3 => ?_⟩
      by_cases ej : j = i
      · simp [ej]
      · simp only [ej, if_false]
        have := hall j b1 b2 b3
        omega
    · by_cases c2 : T i = M (i / 256)
      · exact h2 c1 c2
      · rw [h3 c1 c2]
        have hji : j ≠ i := fun h => c2 (by subst h; exact a4)
        refine ⟨⟨j, a1, a2, a3, by simp [hji, a4]⟩, fun j b1 b2 b3 => ?_⟩
        by_cases ej : j = i
        · simp only [ej, if_true]; omega
        · simp only [ej, if_false]
          exact hall j b1 b2 b3
  · simp only [e, if_false]
    refine (hM b hb).congr (fun _ _ _ => Iff.rfl) (fun j b1 b2 b3 => ?_)
    have : j ≠ i := by omega
    simp [this]

end Go.Proofs.Qxb6600149a.Sf
