/-
  slices.Max at int16; lift.
-/
import Derived.Test.Qxb6600149aSfA
import Derived.Handy
namespace Go.Proofs.Qxb6600149a.Sf
open Go.RowKit

/-- The greatest of f o, .., f (o + n - 1). -/
def Great (f : Nat → Int) (o n : Nat) (m : Int) : Prop := (∃ j, j < n ∧ f (o + j) = m) ∧ ∀ j, j < n → f (o + j) ≤ m

theorem great_one (f : Nat → Int) (o : Nat) : Great f o 1 (f o) :=
  ⟨⟨0, by omega, rfl⟩, fun j hj => by obtain rfl : j = 0 := by omega
                                      exact Int.le_refl _⟩
theorem great_snoc {f : Nat → Int} {o k : Nat} {m : Int} (h : Great f o k m) : Great f o (k + 1) (if m < f (o + k) then f (o + k) else m) := by
  obtain ⟨⟨j, h1, h2⟩, h3⟩ := h
  by_cases c : m < f (o + k)
  · rw [if_pos c]
    refine ⟨⟨k, by omega, rfl⟩, fun i hi => ?_⟩
    by_cases e : i = k
    · subst e; exact Int.le_refl _
    · have := h3 i (by omega); omega
  · rw [if_neg c]
    refine ⟨⟨j, by omega, h2⟩, fun i hi => ?_⟩
    by_cases e : i = k
    · subst e; omega
    · exact h3 i (by omega)

theorem max35 (g o n cap : Nat) (f : Nat → Int) (w : World) (hn : 0 < n) (hl : n ≤ 1048576) (hc : ∀ j, j < n → w.cell? ⟨g, o + j, none⟩ = some (.int .i16 (f (o + j)))) :
    Calls Try.prog 35 #[.slice (some ⟨g, o, none⟩) n cap] w fun e w' => ∃ m, e = .returned (.int .i16 m) ∧ Great f o n m ∧ w' = w := by
  have c0 := hc 0 hn
  simp only [Nat.add_zero] at c0
  go_enter Try.func35, Try.ntmps35
  go_wp2
  go_loop [3, 4] (fun x i => ∃ (k : Nat) (m : Int), 1 ≤ k ∧ k ≤ n ∧ i = .int .i64 k ∧ x = .int .i16 m ∧ Great f o k m) (fun _ i => n - (intOf i).toNat)
  case atStart => exact ⟨1, f o, by omega, by omega, rfl, rfl, great_one f o⟩
  case round =>
    obtain ⟨k, m, hk1, hk, rfl, rfl, hG⟩ := hrel
    by_cases hlt : k < n
    · have c1 := hc k hlt
      have HG := hide (great_snoc hG)
      clear hG hc
      go_wp2
      go_round
      case rel => exact ⟨k + 1, _, by omega, by omega, by go_num, rfl, unhide HG⟩
      case measure => simp [intOf]; omega
    · go_wp2
      go_ret
      obtain rfl : k = n := by omega
      exact ⟨m, rfl, hG, rfl⟩

/-- What lift makes of the mark. -/
def Lifts (f : Nat → Int) (o n : Nat) (mb was t m : Int) : Prop :=
  (mb ≤ t → m = t) ∧ (¬ mb ≤ t → was = mb → Great f o n m) ∧ (¬ mb ≤ t → ¬ was = mb → m = mb)

theorem lift34 (gm b gt o n cap : Nat) (f : Nat → Int) (mb was t : Int) (w : World) (hn : 0 < n) (hl : n ≤ 1048576)
    (hm : w.cell? ⟨gm, b, none⟩ = some (.int .i16 mb)) (hfr : w.frozen? ⟨gm, b, none⟩ = false) (hc : ∀ j, j < n → w.cell? ⟨gt, o + j, none⟩ = some (.int .i16 (f (o + j)))) :
    Calls Try.prog 34 #[.pointer (some ⟨gm, b, none⟩), .slice (some ⟨gt, o, none⟩) n cap, .int .i16 was, .int .i16 t] w fun e w' => e = .returned (.tuple #[]) ∧ ∃ m, Lifts f o n mb was t m ∧ (w' = w ∧ m = mb ∨ w' = w.setCell ⟨gm, b, none⟩ (.int .i16 m)) := by
  by_cases h1 : mb ≤ t
  · clear hc
    go_enter Try.func34, Try.ntmps34
    go_wp2
    go_end0
    exact ⟨rfl, t, ⟨fun _ => rfl, fun h => absurd h1 h, fun h => absurd h1 h⟩, .inr rfl⟩
  · by_cases h2 : was = mb
    · subst h2
      have t2 : (was == was) = true := by simp
      have HC := hide hc
      clear hc
      go_enter Try.func34, Try.ntmps34
      go_wp2_with fail
      refine (max35 gt o n cap f _ hn hl (by exact unhide HC)).mono ?_
      rintro e w1 ⟨m, rfl, hG, hw⟩
      rw [hw]
      clear hw w1
      go_wp2
      go_end0
      exact ⟨rfl, m, ⟨fun h => by omega, fun _ _ => hG, fun _ h => absurd rfl h⟩, .inr rfl⟩
    · have t2 : (was == mb) = false := by simpa using h2
      clear hc
      go_enter Try.func34, Try.ntmps34
      go_wp2
      go_end0
      exact ⟨rfl, mb, ⟨fun h => by omega, fun _ h => absurd h h2, fun _ _ => rfl⟩, .inl ⟨rfl, rfl⟩⟩

end Go.Proofs.Qxb6600149a.Sf
