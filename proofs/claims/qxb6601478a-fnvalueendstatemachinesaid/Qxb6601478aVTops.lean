import Derived.Test.Qxb6601478aVal
/-
  THE WALK of the law 'needs only its own bytes'.
-/
namespace Go.Proofs.Qxb6601478a.Js
open Go.RowKit

/-- valueEnd at every place of a text, its answer named. -/
theorem ve_n (b o n cap : Nat) (L : List UInt8) (hn : L.length = n) (i F : Nat) (w : World) (hL : n ≤ 2000000) (hcap : n ≤ cap) (hcap2 : cap ≤ 2000000) (hi : i ≤ n) (hF : n < F) (ht : Txt w b o L) (r : Nat) (hr : Hid (i + vs F (L.drop i) = r)) :
    Calls Try.prog 21 #[.slice (some ⟨b, o, none⟩) n cap, .int .i64 (i : Int)] w fun e w' => e = .returned (.int .i64 (r : Int)) ∧ w' = w := by
  subst hn
  by_cases h : i < L.length
  · have := ve_in b o cap L i F w hL hcap hcap2 h hF ht
    rw [hr.out] at this
    exact this
  · have e : i = L.length := by omega
    have h2 := hr.out
    rw [vs_end F L i (by omega)] at h2
    subst e
    rw [show r = L.length from by omega]
    exact ve_end _ _ _ _ hL

set_option maxHeartbeats 400000 in
theorem zve_n (b o n cap : Nat) (L : List UInt8) (hn : L.length = n) (i : Int) (F : Nat) (w : World) (hL : n ≤ 2000000) (hcap : n ≤ cap) (hcap2 : cap ≤ 2000000) (h0 : 0 ≤ i) (hi : i ≤ n) (hF : n < F) (ht : Txt w b o L) (r : Nat) (hr : Hid (i.toNat + vs F (L.drop i.toNat) = r)) :
    Calls Try.prog 16 #[.slice (some ⟨b, o, none⟩) n cap, .int .i64 i] w fun e w' => e = .returned (.int .i64 (r : Int)) ∧ w' = w := by
  obtain ⟨k, rfl⟩ := Int.eq_ofNat_of_zero_le h0
  rw [Int.toNat_natCast] at hr
  have Hn : Hid (L.length = n) := hn
  clear hn
  go_enter Try.func16, Try.ntmps16
  go_wp2_with fail
  refine (ve_n b o n cap L Hn.out k F _ hL hcap hcap2 (by omega) hF ht r hr).mono ?_
  rintro e w1 ⟨rfl, rfl⟩
  go_wp2_with fail
  go_ret
  exact ⟨rfl, rfl⟩

set_option maxHeartbeats 400000 in
/-- At the end of whatever text. -/
theorem zve_end (a : Option Addr) (n cap : Nat) (w : World) (hn : n ≤ 2000000) :
    Calls Try.prog 16 #[.slice a n cap, .int .i64 (n : Int)] w fun e w' => e = .returned (.int .i64 (n : Int)) ∧ w' = w := by
  go_enter Try.func16, Try.ntmps16
  go_wp2_with fail
  refine (ve_end a n cap _ hn).mono ?_
  rintro e w1 ⟨rfl, rfl⟩
  go_wp2_with fail
  go_ret
  exact ⟨rfl, rfl⟩
theorem zve_zero (a : Option Addr) (cap : Nat) (w : World) :
    Calls Try.prog 16 #[.slice a 0 cap, .int .i64 0] w fun e w' => e = .returned (.int .i64 0) ∧ w' = w := zve_end a 0 cap w (by omega)

theorem bytes18_yes (a : Option Addr) (n cap : Nat) (i : Int) (w : World) (h : n ≤ 1048576) :
    Calls Try.prog 18 #[.slice a n cap, .int .i64 i] w fun e w' => e = .returned (.bool true) ∧ w' = w := by
  go_enter Try.func18, Try.ntmps18
  go_wp2
  go_ret
  exact ⟨rfl, rfl⟩
theorem bytes18_no (a : Option Addr) (n cap : Nat) (i : Int) (w : World) (h : 1048576 < n) :
    Calls Try.prog 18 #[.slice a n cap, .int .i64 i] w fun e w' => e = .returned (.bool false) ∧ w' = w := by
  go_enter Try.func18, Try.ntmps18
  go_wp2
  go_ret
  exact ⟨rfl, rfl⟩

set_option maxHeartbeats 1000000 in
theorem top7_out (a : Option Addr) (n cap : Nat) (i : Int) (w : World) (h : 1048576 < n ∨ i < 0 ∨ (n : Int) < i) :
    Calls Try.prog 7 #[.slice a n cap, .int .i64 i] w fun e w' => e = .returned (.bool true) ∧ w' = w := by
  by_cases h1 : 1048576 < n
  · go_enter Try.func7, Try.ntmps7
    go_wp2_with fail
    refine (bytes18_no a n cap i _ h1).mono ?_
    rintro e w1 ⟨rfl, rfl⟩
    go_wp2_with fail
    go_ret
    exact ⟨rfl, rfl⟩
  · by_cases h2 : i < 0
    · go_enter Try.func7, Try.ntmps7
      go_wp2_with fail
      refine (bytes18_yes a n cap i _ (by omega)).mono ?_
      rintro e w1 ⟨rfl, rfl⟩
      go_wp2_with fail
      go_ret
      exact ⟨rfl, rfl⟩
    · have h3 : (n : Int) < i := by omega
      clear h
      go_enter Try.func7, Try.ntmps7
      go_wp2_with fail
      refine (bytes18_yes a n cap i _ (by omega)).mono ?_
      rintro e w1 ⟨rfl, rfl⟩
      go_wp2_with fail
      go_ret
      exact ⟨rfl, rfl⟩

set_option maxHeartbeats 1000000 in
/-- The empty text, nil or not. -/
theorem top7_zero (a : Option Addr) (cap : Nat) (w : World) (ha : a = none ∧ cap = 0 ∨ ∃ x, a = some x) :
    Calls Try.prog 7 #[.slice a 0 cap, .int .i64 0] w fun e w' => e = .returned (.bool true) ∧ Below w.heap.size w w' := by
  rcases ha with ⟨rfl, rfl⟩ | ⟨x, rfl⟩
  · go_enter Try.func7, Try.ntmps7
    go_wp2_with fail
    refine (bytes18_yes none 0 0 0 _ (by omega)).mono ?_
    rintro e w1 ⟨rfl, hw⟩; cases hw.symm
    go_wp2_with fail
    refine (clone_nil _).mono ?_
    rintro e w1 ⟨rfl, hw⟩; cases hw.symm
    go_wp2_with fail
    refine (zve_zero _ _ _).mono ?_
    rintro e w1 ⟨rfl, hw⟩; cases hw.symm
    go_wp2_with fail
    refine (zve_zero _ _ _).mono ?_
    rintro e w1 ⟨rfl, hw⟩; cases hw.symm
    go_wp2_with fail
    refine (zve_zero _ _ _).mono ?_
    rintro e w1 ⟨rfl, hw⟩; cases hw.symm
    go_wp2_with fail
    go_ret
    exact ⟨rfl, Below.refl _ _⟩
  · go_enter Try.func7, Try.ntmps7
    go_wp2_with fail
    refine (bytes18_yes (some x) 0 cap 0 _ (by omega)).mono ?_
    rintro e w1 ⟨rfl, hw⟩; cases hw.symm
    go_wp2_with fail
    refine (clone_any x cap [] _ (by simp) (fun h => by simp at h)).mono ?_
    rintro e w1 ⟨rfl, hown, hbel⟩
    go_wp2_with fail
    refine (zve_zero _ _ _).mono ?_
    rintro e w1 ⟨rfl, hw⟩; cases hw.symm
    go_wp2_with fail
    refine (zve_zero _ _ _).mono ?_
    rintro e w1 ⟨rfl, hw⟩; cases hw.symm
    go_wp2_with fail
    refine (zve_zero _ _ _).mono ?_
    rintro e w1 ⟨rfl, hw⟩; cases hw.symm
    go_wp2_with fail
    go_ret
    exact ⟨rfl, hbel⟩

set_option maxHeartbeats 1000000 in
theorem top7_in (b off cap : Nat) (L : List UInt8) (i : Nat) (w : World) (hL : L.length ≤ 1048576) (hi : i < L.length) (hb : b < w.heap.size) (ht : Txt w b off L) :
    Calls Try.prog 7 #[.slice (some ⟨b, off, none⟩) L.length cap, .int .i64 (i : Int)] w fun e w' => e = .returned (.bool true) ∧ Below w.heap.size w w' := by
  have hle : vs (L.length + 1) (L.drop i) ≤ L.length - i := by have := vs_le (L.length + 1) (L.drop i); rwa [List.length_drop] at this
  have Ho : Hid _ := vs_own (L.length + 1) L i (by omega) (Nat.lt_succ_self _)
  generalize hR : vs (L.length + 1) (L.drop i) = R at *
  have H1 : Hid ((i : Int).toNat + vs (L.length + 1) (L.drop (i : Int).toNat) = i + R) := by show _ = _; rw [Int.toNat_natCast, hR]
  have H2 : Hid ((0 : Int).toNat + vs (L.length + 1) ((L.drop i).drop (0 : Int).toNat) = R) := by show _ = _; simp [hR]
  have H3 : Hid ((i : Int).toNat + vs (L.length + 1) ((L.take (i + R)).drop (i : Int).toNat) = i + R) := by show _ = _; rw [Int.toNat_natCast]; have := Ho.out; omega
  clear hR Ho
  have hiL : ¬ L.length = i := by omega
  go_enter Try.func7, Try.ntmps7
  go_wp2_with fail
  refine (bytes18_yes _ _ _ _ _ hL).mono ?_
  rintro e w1 ⟨rfl, hw⟩; cases hw.symm
  go_wp2_with fail
  refine (clone_any ⟨b, off, none⟩ cap L _ hL (fun _ => ⟨b, off, rfl, hb, ht⟩)).mono ?_
  rintro e w1 ⟨rfl, hown, hbel⟩
  go_wp2_with fail
  refine (zve_n w.heap.size 0 L.length L.length L rfl _ _ _ (by omega) (Nat.le_refl _) (by omega) (by omega) (by omega) (Nat.lt_succ_self _) hown.txt _ H1).mono ?_
  rintro e w2 ⟨rfl, hw⟩; cases hw.symm
  have ht2 := hown.txt.drop i
  rw [Nat.zero_add] at ht2
  have ht3 := hown.txt.take (i + R)
  go_wp2_with fail
  refine (zve_n w.heap.size i _ _ (L.drop i) (by simp) _ (L.length + 1) _ (by omega) (Nat.le_refl _) (by omega) (by omega) (by omega) (by omega) ht2 _ H2).mono ?_
  rintro e w2 ⟨rfl, hw⟩; cases hw.symm
  go_wp2_with fail
  refine (zve_n w.heap.size 0 _ _ (L.take (i + R)) (by simp; omega) _ (L.length + 1) _ (by omega) (by omega) (by omega) (by omega) (by omega) (by omega) ht3 _ H3).mono ?_
  rintro e w2 ⟨rfl, hw⟩; cases hw.symm
  go_wp2_with fail
  go_ret
  exact ⟨rfl, hbel⟩

set_option maxHeartbeats 1000000 in
theorem top7_last (b off cap : Nat) (L : List UInt8) (w : World) (hL : L.length ≤ 1048576) (hp : 0 < L.length) (hb : b < w.heap.size) (ht : Txt w b off L) :
    Calls Try.prog 7 #[.slice (some ⟨b, off, none⟩) L.length cap, .int .i64 (L.length : Int)] w fun e w' => e = .returned (.bool true) ∧ Below w.heap.size w w' := by
  go_enter Try.func7, Try.ntmps7
  go_wp2_with fail
  refine (bytes18_yes _ _ _ _ _ hL).mono ?_
  rintro e w1 ⟨rfl, hw⟩; cases hw.symm
  go_wp2_with fail
  refine (clone_any ⟨b, off, none⟩ cap L _ hL (fun _ => ⟨b, off, rfl, hb, ht⟩)).mono ?_
  rintro e w1 ⟨rfl, hown, hbel⟩
  go_wp2_with fail
  refine (zve_end _ _ _ _ (by omega)).mono ?_
  rintro e w2 ⟨rfl, hw⟩; cases hw.symm
  go_wp2_with fail
  refine (zve_zero _ _ _).mono ?_
  rintro e w2 ⟨rfl, hw⟩; cases hw.symm
  go_wp2_with fail
  refine (zve_end _ _ _ _ (by omega)).mono ?_
  rintro e w2 ⟨rfl, hw⟩; cases hw.symm
  go_wp2_with fail
  go_ret
  exact ⟨ret_bool (by simp), hbel⟩
end Go.Proofs.Qxb6601478a.Js
