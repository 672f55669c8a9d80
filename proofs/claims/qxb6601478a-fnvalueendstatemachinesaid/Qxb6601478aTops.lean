import Derived.Test.Qxb6601478aStr
import Derived.OpenShut
/-
  THE WALKS of the two laws on stringEnd.
-/
namespace Go.Proofs.Qxb6601478a.Js
open Go.RowKit

theorem lt_of_cell {w : World} {b o : Nat} {v : Value} (h : w.cell? ⟨b, o, none⟩ = some v) : b < w.heap.size := by
  rcases Nat.lt_or_ge b w.heap.size with h' | h'
  · exact h'
  · simp [World.cell?, Array.getElem?_eq_none h'] at h

/-- A slice of bytes that came in, as a text. -/
theorem row_text {w : World} {x : Addr} {len cap : Nat} {zs : List Int} (hl : len ≤ cap) (hz : zs.length = cap) (hc : ∀ i, i < zs.length → w.cell? (x.add i) = some (.int .u8 (zs.getD i 0))) (hw : ∀ n ∈ zs, (Lit.int .u8 n).wf = true) :
    ∃ L : List UInt8, L.length = len ∧ (0 < L.length → ∃ b off, x = ⟨b, off, none⟩ ∧ b < w.heap.size ∧ Txt w b off L) := by
  refine ⟨(zs.take len).map fun z => z.toNat.toUInt8, by simp; omega, fun hp => ?_⟩
  have hp' : 0 < zs.length := by simp at hp; omega
  obtain ⟨b, off, rfl, hcell⟩ := ints_at hc hp'
  refine ⟨b, off, rfl, lt_of_cell (hcell 0 hp'), fun i c hi => ?_⟩
  have hil := lt_of_at hi
  simp at hil
  rw [hcell i (by omega)]
  rw [List.getElem?_map, List.getElem?_take_of_lt (by omega)] at hi
  have e : zs[i]? = some zs[i] := List.getElem?_eq_getElem (by omega)
  rw [e] at hi
  simp only [Option.map_some, Option.some.injEq] at hi
  have hb := bounds_u8 (hw zs[i] (List.getElem_mem (by omega)))
  have e2 : zs.getD i 0 = zs[i] := by simp [List.getD, e]
  rw [e2, ← hi]
  congr 2
  rw [show (zs[i].toNat.toUInt8).toNat = zs[i].toNat % 256 from rfl]
  omega

set_option maxHeartbeats 400000 in
theorem bytes10_yes (a : Option Addr) (n cap : Nat) (i : Int) (w : World) (h : n ≤ 1048576) :
    Calls Try.prog 10 #[.slice a n cap, .int .i64 i] w fun e w' => e = .returned (.bool true) ∧ w' = w := by
  go_enter Try.func10, Try.ntmps10
  go_wp2
  go_ret
  exact ⟨rfl, rfl⟩
theorem bytes10_no (a : Option Addr) (n cap : Nat) (i : Int) (w : World) (h : 1048576 < n) :
    Calls Try.prog 10 #[.slice a n cap, .int .i64 i] w fun e w' => e = .returned (.bool false) ∧ w' = w := by
  go_enter Try.func10, Try.ntmps10
  go_wp2
  go_ret
  exact ⟨rfl, rfl⟩
theorem bytes14_yes (a : Option Addr) (n cap : Nat) (a' : Option Addr) (n' cap' : Nat) (i : Int) (w : World) (h : n + n' ≤ 1048576) :
    Calls Try.prog 14 #[.slice a n cap, .slice a' n' cap', .int .i64 i] w fun e w' => e = .returned (.bool true) ∧ w' = w := by
  go_enter Try.func14, Try.ntmps14
  go_wp2
  go_ret
  exact ⟨rfl, rfl⟩
theorem bytes14_no (a : Option Addr) (n cap : Nat) (a' : Option Addr) (n' cap' : Nat) (i : Int) (w : World) (h1 : n ≤ 9223372036854775807) (h2 : n' ≤ 9223372036854775807) (h : 1048576 < n + n') :
    Calls Try.prog 14 #[.slice a n cap, .slice a' n' cap', .int .i64 i] w fun e w' => e = .returned (.bool false) ∧ w' = w := by
  by_cases g1 : 1048576 < n
  · go_enter Try.func14, Try.ntmps14
    go_wp2
    go_ret
    exact ⟨rfl, rfl⟩
  · by_cases g2 : 1048576 < n'
    · go_enter Try.func14, Try.ntmps14
      go_wp2
      go_ret
      exact ⟨rfl, rfl⟩
    · go_enter Try.func14, Try.ntmps14
      go_wp2
      go_ret
      exact ⟨rfl, rfl⟩

set_option maxHeartbeats 1000000 in
/-- The forward scan: too long, or no place in the text. -/
theorem top4_out (a : Option Addr) (n cap : Nat) (i : Int) (w : World) (h : 1048576 < n ∨ i < 0 ∨ (n : Int) ≤ i) :
    Calls Try.prog 4 #[.slice a n cap, .int .i64 i] w fun e w' => e = .returned (.bool true) ∧ w' = w := by
  by_cases h1 : 1048576 < n
  · go_enter Try.func4, Try.ntmps4
    go_wp2_with fail
    refine (bytes10_no a n cap i _ h1).mono ?_
    rintro e w1 ⟨rfl, rfl⟩
    go_wp2_with fail
    go_ret
    exact ⟨rfl, rfl⟩
  · by_cases h2 : i < 0
    · go_enter Try.func4, Try.ntmps4
      go_wp2_with fail
      refine (bytes10_yes a n cap i _ (by omega)).mono ?_
      rintro e w1 ⟨rfl, rfl⟩
      go_wp2_with fail
      go_ret
      exact ⟨rfl, rfl⟩
    · have h3 : (n : Int) ≤ i := by omega
      clear h
      go_enter Try.func4, Try.ntmps4
      go_wp2_with fail
      refine (bytes10_yes a n cap i _ (by omega)).mono ?_
      rintro e w1 ⟨rfl, rfl⟩
      go_wp2_with fail
      go_ret
      exact ⟨rfl, rfl⟩

set_option maxHeartbeats 1000000 in
/-- The forward scan, at a place of the text. -/
theorem top4_in (b off cap : Nat) (L : List UInt8) (i : Int) (w : World) (hL : L.length ≤ 1048576) (h0 : 0 ≤ i) (h1 : i < L.length) (hb : b < w.heap.size) (ht : Txt w b off L) :
    Calls Try.prog 4 #[.slice (some ⟨b, off, none⟩) L.length cap, .int .i64 i] w fun e w' => e = .returned (.bool true) ∧ Below w.heap.size w w' := by
  obtain ⟨k, rfl⟩ := Int.eq_ofNat_of_zero_le h0
  obtain ⟨c, hc⟩ : ∃ c, L[k]? = some c := ⟨L[k]'(by omega), List.getElem?_eq_getElem (by omega)⟩
  have hcell := ht _ _ hc
  have Hc : Hid (L[k]? = some c) := hc
  clear hc
  by_cases h34 : (c.toNat : Int) = 34
  · have h34' : ((c.toNat : Int) != 34) = false := by simp [h34]
    have Hq : Hid (L[(k : Int).toNat]? = some 34) := by
      have := at_is Hc 34 (by simp [h34]) (by decide)
      show L[(k : Int).toNat]? = some 34
      rw [Int.toNat_natCast]; exact this
    clear h34
    go_enter Try.func4, Try.ntmps4
    go_wp2_with fail
    refine (bytes10_yes _ _ cap _ _ (by omega)).mono ?_
    rintro e w1 ⟨rfl, hw⟩; cases hw.symm
    go_wp2_with fail
    refine (clone_any ⟨b, off, none⟩ cap L _ (by omega) (fun _ => ⟨b, off, rfl, hb, ht⟩)).mono ?_
    rintro e w1 ⟨rfl, hown, hbel⟩
    go_wp2_with fail
    refine (zse_any w.heap.size 0 L.length L _ _ (by omega) (Nat.le_refl _) (by omega) (by omega) Hq.out hown.txt).mono ?_
    rintro e w2 ⟨rfl, hw⟩; cases hw.symm
    go_wp2_with fail
    refine (model_any w.heap.size 0 L.length L _ _ (by omega) (by omega) Hq.out hown.txt).mono ?_
    rintro e w2 ⟨rfl, hw⟩; cases hw.symm
    go_wp2_with fail
    go_ret
    exact ⟨ret_bool (by simp), hbel⟩
  · have h34' : ((c.toNat : Int) != 34) = true := by simp [h34]
    clear h34
    go_enter Try.func4, Try.ntmps4
    go_wp2_with fail
    refine (bytes10_yes _ _ cap _ _ (by omega)).mono ?_
    rintro e w1 ⟨rfl, hw⟩; cases hw.symm
    go_wp2_with fail
    go_ret
    exact ⟨rfl, Below.refl _ _⟩
end Go.Proofs.Qxb6601478a.Js
