import Derived.Test.Qxb6600149aTxC
import Derived.WalkSmall
namespace Go.Proofs.Qxb6600149a.Tx
open Go.RowKit

/-! ### The plain law: no Go in sight -/
theorem asc_lt {z : Nat → Int} {n : Nat} (h : ∀ i, i + 1 < n → z i < z (i + 1)) {i : Nat} : ∀ {j : Nat}, i < j → j < n → z i < z j
  | 0, h1, _ => by omega
  | j + 1, h1, h2 => by
    by_cases e : i = j
    · subst e; exact h i h2
    · have := asc_lt h (i := i) (j := j) (by omega) (by omega)
      have := h j h2
      omega

/-- Where b stands among the views, that are in ascending order. -/
theorem exists_cut (z : Nat → Int) (b : Int) : ∀ (n : Nat), (∀ i, i + 1 < n → z i < z (i + 1)) → ∃ c, c ≤ n ∧ (∀ i, i < n → (z i < b ↔ i < c)) ∧ (∀ i, i < n → z i = b → i = c)
  | 0, _ => ⟨0, Nat.le_refl _, fun i hi => by omega, fun i hi => by omega⟩
  | n + 1, h => by
    obtain ⟨c, h1, h2, h3⟩ := exists_cut z b n (fun i hi => h i (by omega))
    by_cases hc : c = n
    · by_cases hb : z n < b
      · refine ⟨n + 1, Nat.le_refl _, fun i hi => ?_, fun i hi he => ?_⟩
        · by_cases e : i = n
          · subst e; omega
          · have := h2 i (by omega); omega
        · by_cases e : i = n
          · subst e; omega
          · have := h2 i (by omega); omega
      · refine ⟨n, by omega, fun i hi => ?_, fun i hi he => ?_⟩
        · by_cases e : i = n
          · subst e; omega
          · have := h2 i (by omega); omega
        · by_cases e : i = n
          · exact e
          · have := h2 i (by omega); omega
    · have hcn : c < n := by omega
      have h4 := h2 c hcn
      have h5 := asc_lt h (i := c) (j := n) hcn (by omega)
      refine ⟨c, by omega, fun i hi => ?_, fun i hi he => ?_⟩
      · by_cases e : i = n
        · subst e; omega
        · exact h2 i (by omega)
      · by_cases e : i = n
        · subst e; omega
        · exact h3 i (by omega) he

theorem hit_below {n k c : Nat} {z : Nat → Int} {b : Int} (hlt : ∀ i, i < n → (z i < b ↔ i < c)) (hk : k < n) (h : z k < b) : k < c ∧ hitB (k + 1) c z b = hitB k c z b := by
  have h1 := (hlt k hk).1 h
  refine ⟨h1, ?_⟩
  unfold hitB
  have e1 : ¬ (c < k + 1 ∧ z c = b) := by omega
  have e2 : ¬ (c < k ∧ z c = b) := by omega
  rw [decide_eq_false e1, decide_eq_false e2]

theorem hit_at {n k c : Nat} {z : Nat → Int} {b : Int} (heq : ∀ i, i < n → z i = b → i = c) (hk : k < n) (h : z k = b) : c = k ∧ hitB (k + 1) c z b = true := by
  obtain rfl := heq k hk h
  exact ⟨rfl, by simp [hitB, h]⟩

theorem hit_above {n k c : Nat} {z : Nat → Int} {b : Int} (hlt : ∀ i, i < n → (z i < b ↔ i < c)) (hk : k < n) (h1 : ¬ z k < b) (h2 : ¬ z k = b) : c ≤ k ∧ hitB (k + 1) c z b = hitB k c z b := by
  have h3 : ¬ k < c := fun h => h1 ((hlt k hk).2 h)
  refine ⟨by omega, ?_⟩
  unfold hitB
  by_cases e : c = k
  · subst e
    rw [decide_eq_false (by omega), decide_eq_false (by omega)]
  · have : (c < k + 1 ∧ z c = b) ↔ (c < k ∧ z c = b) := by constructor <;> (rintro ⟨h, h'⟩; exact ⟨by omega, h'⟩)
    simp only [this]

/-! ### The contracts, whatever the slice -/
theorem At.later {w w' : World} {k : IntKind} {a : Option Addr} {len : Nat} {z : Nat → Int} (h : At w k a len z) (hb : Below w.heap.size w w') : At w' k a len z := by
  rcases h with h | ⟨b, off, h1, h2⟩
  · exact .inl h
  · exact .inr ⟨b, off, h1, fun i hi => (hb.cell (World.block_lt_of_cell? w _ (h2 i hi))).trans (h2 i hi)⟩

theorem asc_any (a : Option Addr) (len cap : Nat) (z : Nat → Int) (w : World) (hl : len ≤ 1048576) (hA : At w .i64 a len z) :
    Calls Try.prog 10 #[.slice a len cap] w fun e w' => ∃ r : Bool, e = .returned (.bool r) ∧ (r = true → ∀ i, i + 1 < len → z i < z (i + 1)) ∧ ∃ n, w' = w.drewN n := by
  rcases hA with rfl | ⟨b, off, rfl, hc⟩
  · exact (asc0 a cap w).mono fun e w' ⟨h1, h2⟩ => ⟨true, h1, fun _ i hi => by omega, 0, h2⟩
  · by_cases h0 : len = 0
    · subst h0
      exact (asc0 _ cap w).mono fun e w' ⟨h1, h2⟩ => ⟨true, h1, fun _ i hi => by omega, 0, h2⟩
    · exact asc1 b off len cap z w hl (by omega) hc

theorem clone_any (a : Option Addr) (len cap : Nat) (z : Nat → Int) (w : World) (hl : len ≤ 1048576) (hA : At w .i64 a len z) (hn : a = none → len = 0 ∧ cap = 0) :
    Calls Try.prog 11 #[.slice a len cap] w fun e w' => ∃ a' cap', e = .returned (.slice a' len cap') ∧ At w' .i64 a' len z ∧ (a' = none → len = 0 ∧ cap' = 0) ∧ Below w.heap.size w w' := by
  cases a with
  | none =>
    obtain ⟨rfl, rfl⟩ := hn rfl
    exact (clone_nil w).mono fun e w' ⟨h1, h2⟩ => ⟨none, 0, h1, .inl rfl, fun _ => ⟨rfl, rfl⟩, by rw [h2]; exact Below.refl _ _⟩
  | some x =>
    refine (clone_row x len cap z w hl hA).mono fun e w' ⟨v, h1, h2⟩ => ?_
    rcases h2 with ⟨rfl, rfl, rfl⟩ | ⟨rfl, h3, h4, _⟩
    · exact ⟨none, 0, h1, .inl rfl, fun _ => ⟨rfl, rfl⟩, Below.refl _ _⟩
    · exact ⟨_, len, h1, .inr ⟨w.heap.size, 0, rfl, fun i hi => by rw [Nat.zero_add]; exact h3.cell hi⟩, fun h => by simp at h, h4⟩

theorem of_any (a : Option Addr) (len cap : Nat) (z : Nat → Int) (w : World) (hl : len ≤ 1048576) (hA : At w .i64 a len z) (hn : a = none → len = 0 ∧ cap = 0) :
    Calls Try.prog 12 #[.slice a len cap] w fun e w' => ∃ m, e = .returned (.pointer (some ⟨m, 0, none⟩)) ∧ Below w.heap.size w w' ∧ TxV w' m len z := by
  cases a with
  | none =>
    obtain ⟨rfl, rfl⟩ := hn rfl
    exact (of_nil z w).mono fun e w' ⟨h1, h2, h3⟩ => ⟨_, h1, h2, h3.view⟩
  | some x => exact (of_row x len cap z w hl hA).mono fun e w' ⟨h1, h2, h3⟩ => ⟨_, h1, h2, h3.view⟩

/-! ### The two laws' walks -/
set_option maxHeartbeats 1600000 in
theorem law3 (a : Option Addr) (len cap : Nat) (z : Nat → Int) (b : Int) (w : World) (hm : len ≤ maxLen) (hA : At w .i64 a len z) (hn : a = none → len = 0 ∧ cap = 0) :
    Calls Try.prog 3 #[.slice a len cap, .int .i64 b] w fun e w' => e = .returned (.bool true) ∧ Below w.heap.size w w' := by
  by_cases h1 : len ≤ 1048576
  · have b1 : decide (len ≤ 1048576) = true := by simpa using h1
    by_cases h2 : len ≤ 8192
    · have HA := hide hA
      have HN := hide hn
      clear hA hn hm
      go_enter Try.func3, Try.ntmps3
      go_wp2_with fail
      refine (bytes9 _ _ _ _ _ (by unfold maxLen; omega)).mono ?_
      rintro e w1 ⟨rfl, hw1⟩
      rw [hw1]
      clear hw1 w1
      go_wp2_with fail
      refine (asc_any a len cap z _ h1 (by exact unhide HA)).mono ?_
      rintro e w' ⟨r, rfl, hr, n1, rfl⟩
      cases r with
      | false =>
        clear hr
        go_wp2_with fail
        go_ret
        exact ⟨rfl, below_drewN (Below.refl _ _) _⟩
      | true =>
        have HR := hide (hr rfl)
        clear hr
        go_wp2_with fail
        refine (clone_any a len cap z _ h1 (by exact unhide HA) (unhide HN)).mono ?_
        rintro e w2 ⟨a2, cap2, rfl, hA2, hN2, hB2⟩
        have HA2 := hide hA2
        have HN2 := hide hN2
        clear hA2 hN2
        go_wp2_with fail
        refine (of_any a2 len cap2 z _ h1 (by exact unhide HA2) (unhide HN2)).mono ?_
        rintro e w3 ⟨m, rfl, hB3, hV⟩
        obtain ⟨c, hcn, hlt, heq⟩ := exists_cut z b len (unhide HR)
        have HV := hide hV
        have HL := hide hlt
        have HE := hide heq
        clear hV hlt heq
        go_wp2_with fail
        refine (block13 m len z b c _ h1 (by exact unhide HV) hcn (unhide HL) (unhide HE)).mono ?_
        rintro e w4 ⟨rfl, q, rfl⟩
        go_wp2_with fail
        have HS : Hid (∀ k, k < len → ∃ g o, a2 = some ⟨g, o, none⟩ ∧ w3.cell? ⟨g, o + k, none⟩ = some (.int .i64 (z k))) := fun k hk => by
          rcases (unhide HA2).later hB3 with h | ⟨g, o, h1, h2⟩
          · omega
          · exact ⟨g, o, h1, h2 k hk⟩
        have HB := hide ((below_drewN (Below.refl w.heap.size w) n1).trans (hB2.trans (hB3.mono hB2.size)))
        clear hB2 hB3
        go_loop [8, 9, 10] (fun x y i => ∃ k : Nat, k ≤ len ∧ i = .int .i64 k ∧ x = .int .i64 (min k c : Nat) ∧ y = .bool (hitB k c z b)) (fun _ _ i => len - (intOf i).toNat)
        case atStart => exact ⟨0, by omega, rfl, by simp, by simp [hitB]⟩
        case round =>
          obtain ⟨k, hk, rfl, rfl, rfl⟩ := hrel
          have hmin : min k c ≤ k := Nat.min_le_left _ _
          by_cases hlt : k < len
          · obtain ⟨g, o, rfl, e1⟩ := HS.out k hlt
            by_cases z1 : z k < b
            · obtain ⟨hkc, hh⟩ := hit_below (unhide HL) hlt z1
              have z2 : (z k == b) = false := by simp; omega
              have HH := hide hh
              clear hh
              go_wp2
              go_round
              case rel => exact ⟨k + 1, by omega, by go_num, by rw [show min (k + 1) c = min k c + 1 by omega]; go_num, by rw [unhide HH]⟩
              case measure => simp [intOf]; omega
            · by_cases z2 : z k = b
              · obtain ⟨hkc, hh⟩ := hit_at (unhide HE) hlt z2
                have HH := hide hh
                have HK := hide hkc
                have z3 : (z k == b) = true := by simp [z2]
                clear hh hkc z2
                go_wp2
                go_round
                case rel => exact ⟨k + 1, by omega, by go_num, by rw [show min (k + 1) c = min k c by have := unhide HK; omega], by rw [unhide HH]⟩
                case measure => simp [intOf]; omega
              · obtain ⟨hkc, hh⟩ := hit_above (unhide HL) hlt z1 z2
                have HH := hide hh
                have z3 : (z k == b) = false := by simp [z2]
                clear hh
                go_wp2
                go_round
                case rel => exact ⟨k + 1, by omega, by go_num, by rw [show min (k + 1) c = min k c by omega], by rw [unhide HH]⟩
                case measure => simp [intOf]; omega
          · obtain rfl : len = k := by omega
            have hmc : min len c = c := by omega
            rw [hmc]
            clear hmc hmin
            go_wp2
            go_ret
            exact ⟨by simp, below_drewN (unhide HB) _⟩
    · go_enter Try.func3, Try.ntmps3
      go_wp2_with fail
      refine (bytes9 _ _ _ _ _ hm).mono ?_
      rintro e w1 ⟨rfl, hw1⟩
      rw [hw1]
      clear hw1 w1
      go_wp2_with fail
      go_ret
      exact ⟨rfl, Below.refl _ _⟩
  · have b1 : decide (len ≤ 1048576) = false := by simpa using h1
    go_enter Try.func3, Try.ntmps3
    go_wp2_with fail
    refine (bytes9 _ _ _ _ _ hm).mono ?_
    rintro e w1 ⟨rfl, hw1⟩
    rw [hw1]
    clear hw1 w1
    go_wp2_with fail
    go_ret
    exact ⟨rfl, Below.refl _ _⟩

set_option maxHeartbeats 1600000 in
theorem law4 (a : Option Addr) (len cap : Nat) (z : Nat → Int) (w : World) (hm : len ≤ maxLen) (hA : At w .i64 a len z) (hn : a = none → len = 0 ∧ cap = 0) :
    Calls Try.prog 4 #[.slice a len cap] w fun e w' => e = .returned (.bool true) ∧ Below w.heap.size w w' := by
  by_cases h1 : len ≤ 1048576
  · have b1 : decide (len ≤ 1048576) = true := by simpa using h1
    by_cases h2 : len ≤ 8192
    · have HA := hide hA
      have HN := hide hn
      clear hA hn hm
      go_enter Try.func4, Try.ntmps4
      go_wp2_with fail
      refine (bytes14 _ _ _ _ (by unfold maxLen; omega)).mono ?_
      rintro e w1 ⟨rfl, hw1⟩
      rw [hw1]
      clear hw1 w1
      go_wp2_with fail
      refine (asc_any a len cap z _ h1 (by exact unhide HA)).mono ?_
      rintro e w' ⟨r, rfl, hr, n1, rfl⟩
      cases r with
      | false =>
        clear hr
        go_wp2_with fail
        go_ret
        exact ⟨rfl, below_drewN (Below.refl _ _) _⟩
      | true =>
        have HR := hide (hr rfl)
        clear hr
        go_wp2_with fail
        refine (clone_any a len cap z _ h1 (by exact unhide HA) (unhide HN)).mono ?_
        rintro e w2 ⟨a2, cap2, rfl, hA2, hN2, hB2⟩
        have HA2 := hide hA2
        have HN2 := hide hN2
        clear hA2 hN2
        go_wp2_with fail
        refine (of_any a2 len cap2 z _ h1 (by exact unhide HA2) (unhide HN2)).mono ?_
        rintro e w3 ⟨m, rfl, hB3, hV⟩
        have HV := hide hV
        clear hV
        go_wp2_with fail
        have HS : Hid (∀ k, k < len → ∃ g o, a2 = some ⟨g, o, none⟩ ∧ w3.cell? ⟨g, o + k, none⟩ = some (.int .i64 (z k))) := fun k hk => by
          rcases (unhide HA2).later hB3 with h | ⟨g, o, h1, h2⟩
          · omega
          · exact ⟨g, o, h1, h2 k hk⟩
        have HB := hide ((below_drewN (Below.refl w.heap.size w) n1).trans (hB2.trans (hB3.mono hB2.size)))
        clear hB2 hB3
        go_loopw [4] (fun i wr => ∃ k : Nat, k ≤ len ∧ i = .int .i64 k ∧ ∃ q, wr = w3.drewN q) (fun i _ => len - (intOf i).toNat)
        case atStart => exact ⟨0, by omega, rfl, 0, rfl⟩
        case round =>
          obtain ⟨k, hk, rfl, q, rfl⟩ := hrel
          by_cases hlt : k < len
          · obtain ⟨g, o, rfl, e1⟩ := HS.out k hlt
            have hit : hitB len k z (z k) = true := by simp [hitB, hlt]
            have HI := hide hit
            clear hit
            go_wp2_with fail
            refine (block13 m len z (z k) k _ h1 (by exact unhide HV) hk (fun i hi => ?_) (fun i hi he => ?_)).mono ?_
            · constructor
              · intro h'
                by_cases e : i = k
                · subst e; omega
                · by_cases e' : k < i
                  · have := asc_lt (unhide HR) e' hi; omega
                  · omega
              · intro h'; exact asc_lt (unhide HR) h' hlt
            · by_cases e' : k < i
              · have := asc_lt (unhide HR) e' hi; omega
              · by_cases e : i < k
                · have := asc_lt (unhide HR) e hlt; omega
                · omega
            rintro e w4 ⟨rfl, q4, rfl⟩
            rw [unhide HI]
            go_wp2_with fail
            go_roundw
            case rel => exact ⟨k + 1, by omega, by go_num, _, rfl⟩
            case measure => simp [intOf]; omega
          · go_wp2_with fail
            go_ret
            exact ⟨rfl, below_drewN (unhide HB) _⟩
    · go_enter Try.func4, Try.ntmps4
      go_wp2_with fail
      refine (bytes14 _ _ _ _ hm).mono ?_
      rintro e w1 ⟨rfl, hw1⟩
      rw [hw1]
      clear hw1 w1
      go_wp2_with fail
      go_ret
      exact ⟨rfl, Below.refl _ _⟩
  · have b1 : decide (len ≤ 1048576) = false := by simpa using h1
    go_enter Try.func4, Try.ntmps4
    go_wp2_with fail
    refine (bytes14 _ _ _ _ hm).mono ?_
    rintro e w1 ⟨rfl, hw1⟩
    rw [hw1]
    clear hw1 w1
    go_wp2_with fail
    go_ret
    exact ⟨rfl, Below.refl _ _⟩

end Go.Proofs.Qxb6600149a.Tx
