import Derived.Test.Qxb6600149aTxB
import Derived.Handy
namespace Go.Proofs.Qxb6600149a.Tx
open Go.RowKit

/-- The same marks, as a reader meets them. -/
def TxV (w : World) (m n : Nat) (z : Nat → Int) : Prop :=
  ∃ a cap, w.cell? ⟨m, 1, none⟩ = some (.slice a n cap) ∧ (n = 0 ∨ ∃ (g : Nat) (p : Nat → Nat), a = some ⟨g, 0, none⟩ ∧
    ∀ i, i < n → w.cell? ⟨g, i, none⟩ = some (.pointer (some ⟨p i, 0, none⟩)) ∧ w.cell? ⟨p i, 0, none⟩ = some (.int .i64 (z i)))

theorem TxM.view {w : World} {m n : Nat} {z : Nat → Int} (h : TxM w m n z) : TxV w m n z := by
  obtain ⟨v, p, cur, hm, hcs, hc1, hown, hps⟩ := h
  rcases hown.2 with ⟨rfl, rfl⟩ | ⟨g, cap, cu, rfl, hb, hg, r⟩
  · exact ⟨none, 0, by simp [World.cell?, hm, hc1], .inl rfl⟩
  · refine ⟨some ⟨g, 0, none⟩, cap, by simp [World.cell?, hm, hc1], .inr ⟨g, p, rfl, fun i hi => ⟨?_, ?_⟩⟩⟩
    · rw [hown.cellAt i (by omega)]; simp [hi]
    · obtain ⟨c, hc, hc0⟩ := hps i hi
      simp [World.cell?, hc, hc0]

theorem TxV.drewN {w : World} {m n : Nat} {z : Nat → Int} (h : TxV w m n z) (q : Nat) : TxV (w.drewN q) m n z := h

/-- Is one of the n views of block b, at index c? -/
def hitB (n c : Nat) (z : Nat → Int) (b : Int) : Bool := decide (c < n ∧ z c = b)

theorem beq_dec (x y : Int) : (x == y) = decide (x = y) := by
  rw [Bool.eq_iff_iff]; simp

set_option maxHeartbeats 800000 in
theorem block32 (m n : Nat) (z : Nat → Int) (b : Int) (c : Nat) (w : World) (hn : n ≤ 1048576) (hv : TxV w m n z) (hcn : c ≤ n) (hlt : ∀ i, i < n → (z i < b ↔ i < c)) (heq : ∀ i, i < n → z i = b → i = c) :
    Calls Try.prog 32 #[.pointer (some ⟨m, 0, none⟩), .int .i64 b] w fun e w' => e = .returned (.tuple #[.int .i64 c, .bool (decide (c < n ∧ z c = b))]) ∧ ∃ q, w' = w.drewN q := by
  obtain ⟨a, cap, c1, hv⟩ := hv
  by_cases hn0 : n = 0
  · subst hn0
    obtain rfl : c = 0 := by omega
    clear hv hlt heq
    have hd : decide ((0 : Int) < ((0 : Nat) : Int)) = false := by decide
    go_enter Try.func32, Try.ntmps32
    go_wp2
    go_quiet (fail)
    go_wp2
    refine wp_loop_rounds 1 ?_
    rw [rounds_succ]
    go_wp2
    go_quiet (fail)
    go_wp2
    go_ret2
    exact ⟨by simp, _, World.drewN_drewN ..⟩
  · obtain ⟨g, p, rfl, hp⟩ : ∃ (g : Nat) (p : Nat → Nat), a = some ⟨g, 0, none⟩ ∧ ∀ i, i < n → w.cell? ⟨g, i, none⟩ = some (.pointer (some ⟨p i, 0, none⟩)) ∧ w.cell? ⟨p i, 0, none⟩ = some (.int .i64 (z i)) := by
      rcases hv with h | h
      · exact absurd h hn0
      · exact h
    obtain ⟨n, rfl⟩ : ∃ j, n = j + 1 := ⟨n - 1, by omega⟩
    have HL : Hid (∀ i, i < n + 1 → (z i < b ↔ i < c)) := hlt
    have HE : Hid (∀ i, i < n + 1 → z i = b → i = c) := heq
    have HP : Hid (∀ i, i < n + 1 → w.cell? ⟨g, i, none⟩ = some (.pointer (some ⟨p i, 0, none⟩)) ∧ w.cell? ⟨p i, 0, none⟩ = some (.int .i64 (z i))) := hp
    have d1 := (hp n (by omega)).1
    have d2 := (hp n (by omega)).2
    clear hlt heq hp hv hn0
    by_cases h1 : z n = b
    · have hcn' : c = n := ((HE.out n (by omega)) h1).symm
      have t1 : (z n == b) = true := by simpa using h1
      have H1 : Hid (c = n) := hcn'
      clear hcn'
      have H2 : Hid (z n = b) := h1
      clear h1
      go_enter Try.func32, Try.ntmps32
      go_wp2
      go_quiet (fail)
      go_wp2
      go_ret2
      refine ⟨?_, _, rfl⟩
      rw [H1.out]
      simp [H2.out]
    · have t1 : (z n == b) = false := by simpa using h1
      by_cases h2 : z n < b
      · have hcn' : c = n + 1 := by have := (HL.out n (by omega)).1 h2; omega
        have H1 : Hid (c = n + 1) := hcn'
        clear hcn' h1
        go_enter Try.func32, Try.ntmps32
        go_wp2
        go_quiet (fail)
        go_wp2
        go_ret2
        refine ⟨?_, _, rfl⟩
        rw [H1.out]
        simp
      · have hcle : c ≤ n := by have := (HL.out n (by omega)); omega
        clear h1
        go_enter Try.func32, Try.ntmps32
        go_wp2
        go_quiet (fail)
        go_wp2
        clear d1 d2
        go_loop [6, 7] (fun x y => ∃ l h : Nat, l ≤ c ∧ c ≤ h ∧ h ≤ n + 1 ∧ x = .int .i64 l ∧ y = .int .i64 h) (fun x y => (intOf y - intOf x).toNat)
        case atStart => exact ⟨0, n + 1, by omega, by omega, by omega, rfl, by go_num⟩
        case round =>
          obtain ⟨l, h, hl, hh, hhn, rfl, rfl⟩ := hrel
          by_cases hlh : l < h
          · have e1 := (HP.out ((l + h) / 2) (by omega)).1
            have e2 := (HP.out ((l + h) / 2) (by omega)).2
            by_cases hz : z ((l + h) / 2) < b
            · have hk := (HL.out ((l + h) / 2) (by omega)).1 hz
              go_wp2
              go_round
              case rel => exact ⟨(l + h) / 2 + 1, h, by omega, by omega, by omega, by go_num, rfl⟩
              case measure => simp [intOf]; omega
            · have hk : ¬ (l + h) / 2 < c := fun h' => hz ((HL.out ((l + h) / 2) (by omega)).2 h')
              go_wp2
              go_round
              case rel => exact ⟨l, (l + h) / 2, by omega, by omega, by omega, rfl, by go_num⟩
              case measure => simp [intOf]; omega
          · obtain rfl : l = c := by omega
            obtain rfl : l = h := by omega
            have h3 : l < n + 1 := by omega
            have l1 : (l : Int) < (n : Int) + 1 := by omega
            have e1 := (HP.out l h3).1
            have e2 := (HP.out l h3).2
            go_wp2
            go_quiet (fail)
            go_wp2
            go_ret2
            exact ⟨by simp [h3]; exact beq_dec _ _, _, World.drewN_drewN ..⟩

theorem block13 (m n : Nat) (z : Nat → Int) (b : Int) (c : Nat) (w : World) (hn : n ≤ 1048576) (hv : TxV w m n z) (hcn : c ≤ n) (hlt : ∀ i, i < n → (z i < b ↔ i < c)) (heq : ∀ i, i < n → z i = b → i = c) :
    Calls Try.prog 13 #[.pointer (some ⟨m, 0, none⟩), .int .i64 b] w fun e w' => e = .returned (.tuple #[.int .i64 c, .bool (hitB n c z b)]) ∧ ∃ q, w' = w.drewN q := by
  have H : Hid (Calls Try.prog 32 #[.pointer (some ⟨m, 0, none⟩), .int .i64 b] w fun e w' => e = .returned (.tuple #[.int .i64 c, .bool (hitB n c z b)]) ∧ ∃ q, w' = w.drewN q) := block32 m n z b c w hn hv hcn hlt heq
  clear hn hv hcn hlt heq
  go_enter Try.func13, Try.ntmps13
  go_wp2_with (go_at_call 32; refine (unhide H).mono ?_; rintro e w' ⟨rfl, q, rfl⟩)
  go_ret2
  exact ⟨rfl, _, rfl⟩

end Go.Proofs.Qxb6600149a.Tx
