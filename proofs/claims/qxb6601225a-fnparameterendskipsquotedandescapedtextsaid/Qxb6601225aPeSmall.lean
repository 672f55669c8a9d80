import Derived.Test.Qxb6601225aRows
import Derived.Test.Qxb6601225aPePlain
import Derived.WalkKit
import Derived.WalkLawsBesides
import Derived.Lib.Strings
import Derived.Lib.Slices
import Derived.Lib.Walk
import Derived.Lib.Bytealg
import Derived.Laws.IdiomStrings
import Derived.Outline
/-
  WALKS of the small functions on the road.
-/
namespace Go.Proofs.Qxb6601225a.Pe
open Go.RowKit

set_option maxHeartbeats 1000000 in
set_option maxRecDepth 100000 in
/-- internal/stringslite.IndexByte -/
theorem slite_any (s : ByteArray) (c : Int) (w : World) :
    Calls Try.prog 53 #[.string s, .int .u8 c] w fun e w' => e = .returned (.int .i64 (Lib.indexByte s.data.toList c.toNat.toUInt8)) ∧ w' = w := by
  go_enter Try.func53, Try.ntmps53
  go_wp2
  rw [run_callFunc_extern Try.func63 (by kernel_rfl) (by kernel_rfl) (by kernel_rfl) (e := Extern.BytealgIndexByte.indexByte) (by kernel_rfl), Lib.run_indexByteString]
  simp only [Result.andThen]
  rw [Oper.upon_value]
  go_wp2
  go_ret
  exact ⟨rfl, rfl⟩

set_option maxHeartbeats 400000 in
/-- strings.IndexByte -/
theorem index_any (s : ByteArray) (c : Int) (w : World) :
    Calls Try.prog 39 #[.string s, .int .u8 c] w fun e w' => e = .returned (.int .i64 (Lib.indexByte s.data.toList c.toNat.toUInt8)) ∧ w' = w := by
  go_enter Try.func39, Try.ntmps39
  go_wp2_with (go_at_call 53; refine (slite_any _ _ _).mono ?_; rintro e w' ⟨rfl, rfl⟩)
  go_ret
  exact ⟨rfl, rfl⟩

set_option maxHeartbeats 1000000 in
/-- strings.HasPrefix -/
theorem prefix_any (s p : ByteArray) (w : World) :
    Calls Try.prog 37 #[.string s, .string p] w fun e w' => e = .returned (.bool (Lib.hasPrefix s.data.toList p.data.toList)) ∧ w' = w := by
  rw [← Lib.hasPrefix_of_take, ← Lib.size_eq, ← Lib.size_eq]
  go_enter Try.func37, Try.ntmps37
  go_wp2
  · rename_i h
    go_ret
    refine ⟨?_, rfl⟩
    show Ending.returned (Value.bool ((s.extract 0 p.size).toList == p.toList)) = _
    rw [Lib.extract_toList, Lib.toList_data]
    simp [h]
  · rename_i h
    go_ret
    refine ⟨?_, rfl⟩
    show Ending.returned (Value.bool false) = _
    simp [h]

/-- The bound on the lengths. -/
theorem bytes_yes (q s : ByteArray) (b : Int) (w : World) (h : q.size + s.size ≤ 1048576) :
    Calls Try.prog 13 #[.string q, .int .u8 b, .string s] w fun e w' => e = .returned (.bool true) ∧ w' = w := by
  go_enter Try.func13, Try.ntmps13
  go_wp2
  go_ret
  exact ⟨rfl, rfl⟩

theorem bytes_no (q s : ByteArray) (b : Int) (w : World) (hq : q.size ≤ maxLen) (hs : s.size ≤ maxLen) (h : 1048576 < q.size + s.size) :
    Calls Try.prog 13 #[.string q, .int .u8 b, .string s] w fun e w' => e = .returned (.bool false) ∧ w' = w := by
  unfold maxLen at hq hs
  by_cases h1 : 1048576 < q.size
  · go_enter Try.func13, Try.ntmps13
    go_wp2
    go_ret
    exact ⟨rfl, rfl⟩
  · by_cases h2 : 1048576 < s.size
    · go_enter Try.func13, Try.ntmps13
      go_wp2
      go_ret
      exact ⟨rfl, rfl⟩
    · go_enter Try.func13, Try.ntmps13
      go_wp2
      go_ret
      exact ⟨rfl, rfl⟩

set_option maxHeartbeats 400000 in
set_option maxRecDepth 100000 in
theorem one_any (b : Int) (hb : 0 ≤ b) (hb2 : b ≤ 255) (w : World) :
    Calls Try.prog 15 #[.int .u8 b] w fun e w' => e = .returned (.string ⟨#[b.toNat.toUInt8]⟩) ∧ Below w.heap.size w w' := by
  have hu : b = ((b.toNat.toUInt8).toNat : Int) := by
    rw [show (b.toNat.toUInt8).toNat = b.toNat % 256 from rfl]; omega
  have hcell : ∀ j (hj : j < [b.toNat.toUInt8].length), (w.alloc (.cells #[.int .u8 b] 5)).cell? (Addr.add ⟨w.heap.size, 0, none⟩ j) = some (.int .u8 (([b.toNat.toUInt8])[j].toNat : Int)) := by
    intro j hj
    have : j = 0 := by simpa using hj
    subst this
    simp only [List.getElem_cons_zero]
    rw [← hu]
    simp [Addr.add]
  have hconv := run_convert_bytes_back (P := Try.prog) (w.alloc (.cells #[.int .u8 b] 5)) 44 9 5 ⟨w.heap.size, 0, none⟩ 1 [b.toNat.toUInt8] Try.underlying44 Try.underlying5 Try.underlying9 hcell
  simp only [List.length_singleton] at hconv
  clear hcell hu
  go_enter Try.func15, Try.ntmps15
  go_wp2
  go_ret
  exact ⟨rfl, (Below.refl _ _).alloc (Nat.le_refl _) _⟩

theorem take_snoc (s : ByteArray) (k : Nat) (h : k < s.size) : s.data.toList.take (k + 1) = s.data.toList.take k ++ [s[k]] := by
  rw [List.take_succ_eq_append_getElem (by simpa using h)]; rfl
theorem at_byte (s : ByteArray) (k : Nat) (h : k < s.size) : s.data.toList[k]? = some s[k] := by
  rw [List.getElem?_eq_getElem (by simpa using h)]; rfl

set_option maxHeartbeats 400000 in
theorem inset_any (b : Int) (q : ByteArray) (w : World) (hq : q.size ≤ 1048576) :
    Calls Try.prog 14 #[.int .u8 b, .string q] w fun e w' => e = .returned (.bool (has b q.data.toList)) ∧ w' = w := by
  go_enter Try.func14, Try.ntmps14
  go_wp2
  go_loop [5] (fun i => ∃ k : Nat, k ≤ q.size ∧ i = .int .i64 k ∧ Hid (has b (q.data.toList.take k) = false)) (fun i => q.size - (intOf i).toNat)
  case atStart => exact ⟨0, Nat.zero_le _, rfl, rfl⟩
  case round =>
    obtain ⟨k, hk, rfl, hany⟩ := hrel
    by_cases hlt : k < q.size
    · go_wp2
      · go_ret
        have hc : ((q[k].toNat : Int) == b) = true := by assumption
        rw [has_hit b _ k _ (at_byte q k hlt) hc]
        exact ⟨rfl, rfl⟩
      · have hc : ((q[k].toNat : Int) == b) = false := by assumption
        go_round
        case rel => exact ⟨k + 1, by omega, by go_num, (by rw [take_snoc q k hlt, has_snoc, hany.out, hc]; rfl)⟩
        case measure => simp [intOf]; omega
    · go_wp2
      go_ret
      have e : q.data.toList.take k = q.data.toList := List.take_of_length_le (by simp; omega)
      rw [← e, hany.out]
      exact ⟨rfl, rfl⟩
end Go.Proofs.Qxb6601225a.Pe
