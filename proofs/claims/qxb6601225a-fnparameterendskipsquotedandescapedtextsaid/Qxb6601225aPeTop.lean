import Derived.Test.Qxb6601225aPeEnd
/-
  THE WALK of the law itself.
-/
namespace Go.Proofs.Qxb6601225a.Pe
open Go.RowKit

theorem ret_bool {a b : Bool} (h : a = b) : Ending.returned (.bool a) = .returned (.bool b) := by rw [h]

/-- parameterEnd of the text with a quoted text and an escape ahead. -/
theorem lead_any (q s : ByteArray) (u : UInt8) (w : World) (h : q.size + s.size ≤ 1048576) (hin : has 39 q.data.toList = false) (r : Int) (hr : run (q.size + s.size + 8) false 0 s.data.toList = r) :
    Calls Try.prog 11 #[.string (⟨#[39]⟩ ++ q ++ ⟨#[39]⟩ ++ ⟨#[92]⟩ ++ ⟨#[u]⟩ ++ s)] w fun e w' => e = .returned (.int .i64 (sh (q.size + 4) r)) ∧ Below w.heap.size w w' := by
  have hz : (⟨#[39]⟩ ++ q ++ ⟨#[39]⟩ ++ ⟨#[92]⟩ ++ ⟨#[u]⟩ ++ s : ByteArray).size = q.size + s.size + 4 := by
    simp only [ByteArray.size_append]
    rw [show (⟨#[39]⟩ : ByteArray).size = 1 from rfl, show (⟨#[92]⟩ : ByteArray).size = 1 from rfl, show (⟨#[u]⟩ : ByteArray).size = 1 from rfl]
    omega
  have hl : (⟨#[39]⟩ ++ q ++ ⟨#[39]⟩ ++ ⟨#[92]⟩ ++ ⟨#[u]⟩ ++ s : ByteArray).data.toList = 39 :: q.data.toList ++ 39 :: 92 :: u :: s.data.toList := by simp
  have hk := law q.data.toList s.data.toList u (q.size + s.size + 8) (has_no _ hin)
  have := zz_any _ (q.size + s.size + 8 + 2) w (by rw [hz]; omega) (by rw [hz]; omega)
  rw [hl, hk, hr] at this
  rw [show (q.size : Int) = (q.data.toList.length : Int) from by simp]
  exact this
theorem lead_no (q s : ByteArray) (u : UInt8) (w : World) (h : q.size + s.size ≤ 1048576) (hin : Hid (has 39 q.data.toList = false)) (hr : Hid (run (q.size + s.size + 8) false 0 s.data.toList = -1)) :
    Calls Try.prog 11 #[.string (⟨#[39]⟩ ++ q ++ ⟨#[39]⟩ ++ ⟨#[92]⟩ ++ ⟨#[u]⟩ ++ s)] w fun e w' => e = .returned (.int .i64 (-1)) ∧ Below w.heap.size w w' :=
  lead_any q s u w h hin.out (-1) hr.out
theorem lead_yes (q s : ByteArray) (u : UInt8) (w : World) (h : q.size + s.size ≤ 1048576) (hin : Hid (has 39 q.data.toList = false)) (n : Nat) (hr : Hid (run (q.size + s.size + 8) false 0 s.data.toList = (n : Int))) :
    Calls Try.prog 11 #[.string (⟨#[39]⟩ ++ q ++ ⟨#[39]⟩ ++ ⟨#[92]⟩ ++ ⟨#[u]⟩ ++ s)] w fun e w' => e = .returned (.int .i64 ((q.size : Int) + 4 + n)) ∧ Below w.heap.size w w' := by
  have := lead_any q s u w h hin.out n hr.out
  rw [sh_nn (by omega)] at this
  exact this
theorem plain_any (q s : ByteArray) (w : World) (h : q.size + s.size ≤ 1048576) (r : Int) (hr : Hid (run (q.size + s.size + 8) false 0 s.data.toList = r)) :
    Calls Try.prog 11 #[.string s] w fun e w' => e = .returned (.int .i64 r) ∧ Below w.heap.size w w' := by
  have := zz_any s (q.size + s.size + 8) w (by omega) (by omega)
  rw [hr.out] at this
  exact this

set_option maxHeartbeats 1000000 in
set_option maxRecDepth 100000 in
theorem top (q : ByteArray) (b : Int) (s : ByteArray) (hq : q.size ≤ maxLen) (hb0 : 0 ≤ b) (hb1 : b ≤ 255) (hs : s.size ≤ maxLen) (w : World) :
    Calls Try.prog 5 #[.string q, .int .u8 b, .string s] w fun e w' => e = .returned (.bool true) ∧ Below w.heap.size w w' := by
  unfold maxLen at hq hs
  by_cases hsum : q.size + s.size ≤ 1048576
  · cases hin : has 39 q.data.toList with
    | true =>
      have Hin : Hid (has 39 q.data.toList = true) := hin
      clear hin
      go_enter Try.func5, Try.ntmps5
      go_wp2_with fail
      refine (bytes_yes q s b _ hsum).mono ?_
      rintro e w1 ⟨rfl, hw⟩; cases hw.symm
      go_wp2_with fail
      refine (inset_any 39 q _ (by omega)).mono ?_
      rintro e w1 ⟨rfl, hw⟩; cases hw.symm
      rw [Hin.out]
      go_wp2_with fail
      go_ret
      exact ⟨rfl, Below.refl _ _⟩
    | false =>
      have Hin : Hid (has 39 q.data.toList = false) := hin
      clear hin
      go_enter Try.func5, Try.ntmps5
      go_wp2_with fail
      refine (bytes_yes q s b _ hsum).mono ?_
      rintro e w1 ⟨rfl, hw⟩; cases hw.symm
      go_wp2_with fail
      refine (inset_any 39 q _ (by omega)).mono ?_
      rintro e w1 ⟨rfl, hw⟩; cases hw.symm
      rw [Hin.out]
      go_wp2_with fail
      refine (one_any 92 (by omega) (by omega) _).mono ?_
      rintro e w1 ⟨rfl, hb1'⟩
      go_wp2_with fail
      refine (one_any b (by omega) (by omega) _).mono ?_
      rintro e w2 ⟨rfl, hb2'⟩
      have hbel : Below w.heap.size w w2 := hb1'.trans (hb2'.mono hb1'.size)
      clear hb1' hb2'
      have hge := run_ge (q.size + s.size + 8) false 0 s.data.toList
      by_cases hneg : run (q.size + s.size + 8) false 0 s.data.toList < 0
      · have Hr : Hid (run (q.size + s.size + 8) false 0 s.data.toList = -1) := by show run _ false 0 _ = -1; omega
        clear hge hneg
        go_wp2_with fail
        refine (lead_no q s _ _ hsum Hin Hr).mono ?_
        rintro e w3 ⟨rfl, hb3⟩
        go_wp2_with fail
        refine (plain_any q s _ hsum (-1) Hr).mono ?_
        rintro e w4 ⟨rfl, hb4⟩
        have hbel2 : Below w.heap.size w w4 := (hbel.trans (hb3.mono hbel.size)).trans (hb4.mono (Nat.le_trans hbel.size hb3.size))
        go_wp2_with fail
        go_ret
        exact ⟨rfl, hbel2⟩
      · obtain ⟨n, hn⟩ := Int.eq_ofNat_of_zero_le (show 0 ≤ run (q.size + s.size + 8) false 0 s.data.toList by omega)
        have Hr : Hid (run (q.size + s.size + 8) false 0 s.data.toList = (n : Int)) := hn
        have hlt := run_lt (q.size + s.size + 8) 0 s.data.toList
        have hnl : n < s.size := by rw [hn] at hlt; simp at hlt; omega
        clear hge hneg hn hlt
        go_wp2_with fail
        refine (lead_yes q s _ _ hsum Hin n Hr).mono ?_
        rintro e w3 ⟨rfl, hb3⟩
        go_wp2_with fail
        refine (plain_any q s _ hsum n Hr).mono ?_
        rintro e w4 ⟨rfl, hb4⟩
        have hbel2 : Below w.heap.size w w4 := (hbel.trans (hb3.mono hbel.size)).trans (hb4.mono (Nat.le_trans hbel.size hb3.size))
        go_wp2_with fail
        go_ret
        exact ⟨ret_bool (beq_iff_eq.2 (by omega)), hbel2⟩
  · go_enter Try.func5, Try.ntmps5
    go_wp2_with fail
    refine (bytes_no q s b _ (by unfold maxLen; omega) (by unfold maxLen; omega) (by omega)).mono ?_
    rintro e w1 ⟨rfl, hw⟩; cases hw.symm
    go_wp2_with fail
    go_ret
    exact ⟨rfl, Below.refl _ _⟩
end Go.Proofs.Qxb6601225a.Pe
