import Derived.Test.Qxb6601225aPeSmall
/-
  THE WALK of ansiCEnd.
-/
namespace Go.Proofs.Qxb6601225a.Pe
open Go.RowKit

theorem byte_eq (c : UInt8) (n : Nat) (h : (((c.toNat : Int)) == (n : Int)) = true) (hn : n < 256) : c = n.toUInt8 := by
  have h' : (c.toNat : Int) = n := by simpa using h
  apply UInt8.toNat_inj.1
  rw [show (n.toUInt8).toNat = n % 256 from rfl]; omega
theorem byte_ne (c : UInt8) (n : Nat) (h : (((c.toNat : Int)) == (n : Int)) = false) (hn : n < 256) : c ≠ n.toUInt8 := by
  have h' : ¬ (c.toNat : Int) = n := by simpa using h
  intro e
  apply h'
  rw [e, show (n.toUInt8).toNat = n % 256 from rfl]; omega

theorem at_is {L : List UInt8} {k : Nat} {c : UInt8} (h : Hid (L[k]? = some c)) (n : Nat) (e : (((c.toNat : Int)) == (n : Int)) = true) (hn : n < 256) : L[k]? = some n.toUInt8 := by
  rw [h.out, byte_eq c n e hn]
theorem ret_int {k : IntKind} {a b : Int} (h : a = b) : Ending.returned (.int k a) = .returned (.int k b) := by rw [h]
theorem ansi_fin {k n a b c : Nat} (h : Hid (min k n + a = b + c)) (h0 : a = 0) : min (k : Int) (n : Int) = (b : Int) + (c : Int) := by
  have := h.out; omega

set_option maxHeartbeats 1000000 in
theorem ansi_any (s : ByteArray) (i : Int) (w : World) (hs : s.size ≤ 2000000) (h0 : 0 ≤ i) (h1 : i ≤ s.size) :
    Calls Try.prog 38 #[.string s, .int .i64 i] w fun e w' => e = .returned (.int .i64 (i + ansi (s.data.toList.drop i.toNat))) ∧ w' = w := by
  obtain ⟨i0, rfl⟩ := Int.eq_ofNat_of_zero_le h0
  rw [Int.toNat_natCast]
  have hL : s.data.toList.length = s.size := by simp
  go_enter Try.func38, Try.ntmps38
  go_wp2
  go_loop [1] (fun i => ∃ k : Nat, k ≤ s.size + 1 ∧ i = .int .i64 k ∧ Hid (min k s.size + ansi (s.data.toList.drop k) = i0 + ansi (s.data.toList.drop i0))) (fun i => s.size + 1 - (intOf i).toNat)
  case atStart => exact ⟨i0, by omega, rfl, (by show min i0 s.size + _ = _; omega)⟩
  case round =>
    obtain ⟨k, hk, rfl, hk2⟩ := hrel
    by_cases hlt : k < s.size
    · have hat := at_byte s k hlt
      have Hat : Hid (s.data.toList[k]? = some s[k]) := hat
      clear hat hL
      go_wp2
      · have e1 : ((s[k].toNat : Int) == 92) = true := by assumption
        go_round
        case rel => exact ⟨k + 2, by omega, by go_num, (by
            have := ansi_bs (at_is Hat 92 e1 (by decide))
            rw [Lib.size_eq] at hk2 ⊢
            have h3 := hk2.out
            show min (k + 2) _ + _ = _
            have hlt' : k < s.data.toList.length := by rw [← Lib.size_eq]; exact hlt
            omega)⟩
        case measure => simp [intOf]; omega
      · have e1 : ((s[k].toNat : Int) == 92) = false := by assumption
        have e2 : ((s[k].toNat : Int) != 39) = true := by assumption
        go_round
        case rel => exact ⟨k + 1, by omega, by go_num, (by
            have := ansi_else Hat.out (byte_ne _ 39 (by simpa using e2) (by decide)) (byte_ne _ 92 e1 (by decide))
            rw [Lib.size_eq] at hk2 ⊢
            have h3 := hk2.out
            show min (k + 1) _ + _ = _
            have hlt' : k < s.data.toList.length := by rw [← Lib.size_eq]; exact hlt
            omega)⟩
        case measure => simp [intOf]; omega
      · have e2 : ((s[k].toNat : Int) != 39) = false := by assumption
        go_ret
        exact ⟨ret_int (ansi_fin hk2 (ansi_quote (at_is Hat 39 (by simpa using e2) (by decide)))), rfl⟩
    · go_wp2
      go_ret
      exact ⟨ret_int (ansi_fin hk2 (ansi_end _ _ (by omega))), rfl⟩
end Go.Proofs.Qxb6601225a.Pe
