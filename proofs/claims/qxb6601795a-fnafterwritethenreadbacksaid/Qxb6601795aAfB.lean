/-
  ZZAfter, kind by kind, out of (keyState).after's contracts; zzSame.
-/
import Derived.Test.Qxb6601795aAfA
import Derived.WalkSmall
namespace Go.Proofs.Qxb6601795a.Af
open Go.RowKit

theorem z0 (kv av : ByteArray) (kp ap : Bool) (kn km an : Int) (w : World) :
    Calls Try.prog 9 #[.string kv, .bool kp, .int .u64 kn, .int .u64 km, .int .u8 0, .string av, .bool ap, .int .u64 an] w fun e w' =>
      e = .returned (.tuple #[.string kv, .bool kp, .int .u64 kn, .int .u64 km, .bool (smB kv kp av ap)]) ∧ Below w.heap.size w w' := by
  have H := hide (fun W => after0 kv av kp ap kn km an W)
  skip
  go_enter Try.func9, Try.ntmps9
  go_wp2_with fail
  refine (unhide H _).mono ?_
  rintro e w1 ⟨rfl, hb⟩
  have hz : w.heap.size < w1.heap.size := by have := hb.size; simp at this; omega
  have HB := hide hb
  clear hb H
  go_wp2_with fail
  go_quiet (fail)
  go_wp2
  exact bodyPost_ret (v := .tuple #[.string kv, .bool kp, .int .u64 kn, .int .u64 km, .bool (smB kv kp av ap)]) (by simp [results, Try.results9, go_sem]) rfl ⟨rfl, below_drewN (((((Below.refl _ _).alloc (Nat.le_refl _) _).trans ((unhide HB).mono (by simp)))).alloc (by omega) _) _⟩

theorem z1 (kv av : ByteArray) (kp ap : Bool) (kn km an : Int) (w : World) :
    Calls Try.prog 9 #[.string kv, .bool kp, .int .u64 kn, .int .u64 km, .int .u8 1, .string av, .bool ap, .int .u64 an] w fun e w' =>
      e = .returned (.tuple #[.string kv, .bool kp, .int .u64 kn, .int .u64 km, .bool (smB kv kp av ap && (kn == an))]) ∧ Below w.heap.size w w' := by
  have H := hide (fun W => after1 kv av kp ap kn km an W)
  skip
  go_enter Try.func9, Try.ntmps9
  go_wp2_with fail
  refine (unhide H _).mono ?_
  rintro e w1 ⟨rfl, hb⟩
  have hz : w.heap.size < w1.heap.size := by have := hb.size; simp at this; omega
  have HB := hide hb
  clear hb H
  go_wp2_with fail
  go_quiet (fail)
  go_wp2
  exact bodyPost_ret (v := .tuple #[.string kv, .bool kp, .int .u64 kn, .int .u64 km, .bool (smB kv kp av ap && (kn == an))]) (by simp [results, Try.results9, go_sem]) rfl ⟨rfl, below_drewN (((((Below.refl _ _).alloc (Nat.le_refl _) _).trans ((unhide HB).mono (by simp)))).alloc (by omega) _) _⟩

theorem z2 (kv av : ByteArray) (kp ap : Bool) (kn km an : Int) (w : World) :
    Calls Try.prog 9 #[.string kv, .bool kp, .int .u64 kn, .int .u64 km, .int .u8 2, .string av, .bool ap, .int .u64 an] w fun e w' =>
      e = .returned (.tuple #[.string av, .bool ap, .int .u64 (next kn), .int .u64 0, .bool true]) ∧ Below w.heap.size w w' := by
  have H := hide (fun W => after2 kv av kp ap kn km an W)
  skip
  go_enter Try.func9, Try.ntmps9
  go_wp2_with fail
  refine (unhide H _).mono ?_
  rintro e w1 ⟨rfl, hb⟩
  have hz : w.heap.size < w1.heap.size := by have := hb.size; simp at this; omega
  have HB := hide hb
  clear hb H
  go_wp2_with fail
  go_quiet (fail)
  go_wp2
  exact bodyPost_ret (v := .tuple #[.string av, .bool ap, .int .u64 (next kn), .int .u64 0, .bool true]) (by simp [results, Try.results9, go_sem]) rfl ⟨rfl, below_drewN (((((Below.refl _ _).alloc (Nat.le_refl _) _).trans ((unhide HB).mono (by simp)))).alloc (by omega) _) _⟩

theorem z6 (kv av : ByteArray) (kp ap : Bool) (kn km an : Int) (w : World) :
    Calls Try.prog 9 #[.string kv, .bool kp, .int .u64 kn, .int .u64 km, .int .u8 6, .string av, .bool ap, .int .u64 an] w fun e w' =>
      e = .returned (.tuple #[.string av, .bool ap, .int .u64 (next kn), .int .u64 0, .bool true]) ∧ Below w.heap.size w w' := by
  have H := hide (fun W => after6 kv av kp ap kn km an W)
  skip
  go_enter Try.func9, Try.ntmps9
  go_wp2_with fail
  refine (unhide H _).mono ?_
  rintro e w1 ⟨rfl, hb⟩
  have hz : w.heap.size < w1.heap.size := by have := hb.size; simp at this; omega
  have HB := hide hb
  clear hb H
  go_wp2_with fail
  go_quiet (fail)
  go_wp2
  exact bodyPost_ret (v := .tuple #[.string av, .bool ap, .int .u64 (next kn), .int .u64 0, .bool true]) (by simp [results, Try.results9, go_sem]) rfl ⟨rfl, below_drewN (((((Below.refl _ _).alloc (Nat.le_refl _) _).trans ((unhide HB).mono (by simp)))).alloc (by omega) _) _⟩

theorem z3 (kv av : ByteArray) (kp ap : Bool) (kn km an : Int) (w : World) :
    Calls Try.prog 9 #[.string kv, .bool kp, .int .u64 kn, .int .u64 km, .int .u8 3, .string av, .bool ap, .int .u64 an] w fun e w' =>
      e = .returned (.tuple #[.string av, .bool ap, .int .u64 (next kn), .int .u64 0, .bool (kn == an)]) ∧ Below w.heap.size w w' := by
  have H := hide (fun W => after3 kv av kp ap kn km an W)
  skip
  go_enter Try.func9, Try.ntmps9
  go_wp2_with fail
  refine (unhide H _).mono ?_
  rintro e w1 ⟨rfl, hb⟩
  have hz : w.heap.size < w1.heap.size := by have := hb.size; simp at this; omega
  have HB := hide hb
  clear hb H
  go_wp2_with fail
  go_quiet (fail)
  go_wp2
  exact bodyPost_ret (v := .tuple #[.string av, .bool ap, .int .u64 (next kn), .int .u64 0, .bool (kn == an)]) (by simp [results, Try.results9, go_sem]) rfl ⟨rfl, below_drewN (((((Below.refl _ _).alloc (Nat.le_refl _) _).trans ((unhide HB).mono (by simp)))).alloc (by omega) _) _⟩

theorem z4t (kv av : ByteArray) (kp ap : Bool) (kn km an : Int) (h : (kn == an) = true) (w : World) :
    Calls Try.prog 9 #[.string kv, .bool kp, .int .u64 kn, .int .u64 km, .int .u8 4, .string av, .bool ap, .int .u64 an] w fun e w' =>
      e = .returned (.tuple #[.string av, .bool ap, .int .u64 (next kn), .int .u64 0, .bool true]) ∧ Below w.heap.size w w' := by
  have H := hide (fun W => after4t kv av kp ap kn km an h W)
  clear h
  go_enter Try.func9, Try.ntmps9
  go_wp2_with fail
  refine (unhide H _).mono ?_
  rintro e w1 ⟨rfl, hb⟩
  have hz : w.heap.size < w1.heap.size := by have := hb.size; simp at this; omega
  have HB := hide hb
  clear hb H
  go_wp2_with fail
  go_quiet (fail)
  go_wp2
  exact bodyPost_ret (v := .tuple #[.string av, .bool ap, .int .u64 (next kn), .int .u64 0, .bool true]) (by simp [results, Try.results9, go_sem]) rfl ⟨rfl, below_drewN (((((Below.refl _ _).alloc (Nat.le_refl _) _).trans ((unhide HB).mono (by simp)))).alloc (by omega) _) _⟩

theorem z4f (kv av : ByteArray) (kp ap : Bool) (kn km an : Int) (h : (kn == an) = false) (w : World) :
    Calls Try.prog 9 #[.string kv, .bool kp, .int .u64 kn, .int .u64 km, .int .u8 4, .string av, .bool ap, .int .u64 an] w fun e w' =>
      e = .returned (.tuple #[.string kv, .bool kp, .int .u64 kn, .int .u64 km, .bool true]) ∧ Below w.heap.size w w' := by
  have H := hide (fun W => after4f kv av kp ap kn km an h W)
  clear h
  go_enter Try.func9, Try.ntmps9
  go_wp2_with fail
  refine (unhide H _).mono ?_
  rintro e w1 ⟨rfl, hb⟩
  have hz : w.heap.size < w1.heap.size := by have := hb.size; simp at this; omega
  have HB := hide hb
  clear hb H
  go_wp2_with fail
  go_quiet (fail)
  go_wp2
  exact bodyPost_ret (v := .tuple #[.string kv, .bool kp, .int .u64 kn, .int .u64 km, .bool true]) (by simp [results, Try.results9, go_sem]) rfl ⟨rfl, below_drewN (((((Below.refl _ _).alloc (Nat.le_refl _) _).trans ((unhide HB).mono (by simp)))).alloc (by omega) _) _⟩

theorem z5 (kv av : ByteArray) (kp ap : Bool) (kn km an : Int) (w : World) :
    Calls Try.prog 9 #[.string kv, .bool kp, .int .u64 kn, .int .u64 km, .int .u8 5, .string av, .bool ap, .int .u64 an] w fun e w' =>
      e = .returned (.tuple #[.string kv, .bool kp, .int .u64 kn, .int .u64 km, .bool (!(kn == an))]) ∧ Below w.heap.size w w' := by
  have H := hide (fun W => after5 kv av kp ap kn km an W)
  skip
  go_enter Try.func9, Try.ntmps9
  go_wp2_with fail
  refine (unhide H _).mono ?_
  rintro e w1 ⟨rfl, hb⟩
  have hz : w.heap.size < w1.heap.size := by have := hb.size; simp at this; omega
  have HB := hide hb
  clear hb H
  go_wp2_with fail
  go_quiet (fail)
  go_wp2
  exact bodyPost_ret (v := .tuple #[.string kv, .bool kp, .int .u64 kn, .int .u64 km, .bool (!(kn == an))]) (by simp [results, Try.results9, go_sem]) rfl ⟨rfl, below_drewN (((((Below.refl _ _).alloc (Nat.le_refl _) _).trans ((unhide HB).mono (by simp)))).alloc (by omega) _) _⟩

theorem z7 (kv av : ByteArray) (kp ap : Bool) (kn km an d : Int) (h : 6 < d) (w : World) :
    Calls Try.prog 9 #[.string kv, .bool kp, .int .u64 kn, .int .u64 km, .int .u8 d, .string av, .bool ap, .int .u64 an] w fun e w' =>
      e = .returned (.tuple #[.string kv, .bool kp, .int .u64 kn, .int .u64 km, .bool false]) ∧ Below w.heap.size w w' := by
  have H := hide (fun W => after7 kv av kp ap kn km an d h W)
  skip
  go_enter Try.func9, Try.ntmps9
  go_wp2_with fail
  refine (unhide H _).mono ?_
  rintro e w1 ⟨rfl, hb⟩
  have hz : w.heap.size < w1.heap.size := by have := hb.size; simp at this; omega
  have HB := hide hb
  clear hb H
  go_wp2_with fail
  go_quiet (fail)
  go_wp2
  exact bodyPost_ret (v := .tuple #[.string kv, .bool kp, .int .u64 kn, .int .u64 km, .bool false]) (by simp [results, Try.results9, go_sem]) rfl ⟨rfl, below_drewN (((((Below.refl _ _).alloc (Nat.le_refl _) _).trans ((unhide HB).mono (by simp)))).alloc (by omega) _) _⟩

theorem same10 (v wv : ByteArray) (p ok wp wok : Bool) (n m wn wm : Int) (h1 : v = wv) (h2 : p = wp) (h3 : n = wn) (h4 : m = wm) (h5 : ok = wok) (w : World) :
    Calls Try.prog 10 #[.string v, .bool p, .int .u64 n, .int .u64 m, .bool ok, .string wv, .bool wp, .int .u64 wn, .int .u64 wm, .bool wok] w fun e w' => e = .returned (.bool true) ∧ w' = w := by
  subst h1 h2 h3 h4 h5
  go_enter Try.func10, Try.ntmps10
  go_wp2
  go_ret
  exact ⟨rfl, rfl⟩


end Go.Proofs.Qxb6601795a.Af
