import Derived.Test.Qxb6601478aSmall
/-
  THE WALKS of stringEnd and of its model.
-/
namespace Go.Proofs.Qxb6601478a.Js
open Go.RowKit

theorem byte_eq (c : UInt8) (n : Nat) (h : (((c.toNat : Int)) == (n : Int)) = true) (hn : n < 256) : c = n.toUInt8 := by
  have h' : (c.toNat : Int) = n := by simpa using h
  apply UInt8.toNat_inj.1
  rw [show (n.toUInt8).toNat = n % 256 from rfl]; omega
theorem byte_ne (c : UInt8) (n : Nat) (h : (((c.toNat : Int)) == (n : Int)) = false) (hn : n < 256) : c ≠ n.toUInt8 := by
  have h' : ¬ (c.toNat : Int) = n := by simpa using h
  intro e
  apply h'
  rw [e, show (n.toUInt8).toNat = n % 256 from rfl]; omega
theorem at_is {L : List UInt8} {k : Nat} {c : UInt8} (h : Hid (L[k]? = some c)) (n : Nat) (e : (((c.toNat : Int)) == (n : Int)) = true) (hn : n < 256) : L[k]? = some n.toUInt8 := by
  rw [h.out, byte_eq c n e hn]
theorem ret_int {k : IntKind} {a b : Int} (h : a = b) : Ending.returned (.int k a) = .returned (.int k b) := by rw [h]
theorem ret_bool {a b : Bool} (h : a = b) : Ending.returned (.bool a) = .returned (.bool b) := by rw [h]

/-- bytes.IndexByte of a quote. -/
theorem ib_any (b o n cap : Nat) (M : List UInt8) (w : World) (hn : M.length = n) (ht : Txt w b o M) (r : Int) (hr : Hid (Lib.indexByte M 34 = r)) :
    Calls Try.prog 24 #[.slice (some ⟨b, o, none⟩) n cap, .int .u8 34] w fun e w' => e = .returned (.int .i64 r) ∧ w' = w := by
  have h := Try.bytes_IndexByte_at ⟨b, o, none⟩ n cap (M.map fun c => (c.toNat : Int)) 34 w (by simpa using hn) (fun i hi => by
    have hlt : i < M.length := by omega
    have e : M[i]? = some M[i] := List.getElem?_eq_getElem hlt
    have := ht i M[i] e
    rw [show Addr.add ⟨b, o, none⟩ i = ⟨b, o + i, none⟩ from by unfold Addr.add; split <;> simp_all, this]
    simp [List.getD, e])
  have e2 : Lib.bytesOf (M.map fun c => (c.toNat : Int)) = M := by
    unfold Lib.bytesOf
    rw [List.map_map]
    conv => rhs; rw [← List.map_id M]
    apply List.map_congr_left
    intro c _
    simp
  rw [e2] at h
  rw [show ((34 : Int).toNat.toUInt8) = 34 from rfl, hr.out] at h
  exact h

set_option maxHeartbeats 2000000 in
set_option maxRecDepth 100000 in
theorem se_any (b o cap : Nat) (L : List UInt8) (i : Int) (w : World) (_hL : L.length ≤ 2000000) (hcap : L.length ≤ cap) (hcap2 : cap ≤ 2000000) (h0 : 0 ≤ i) (hi : L[i.toNat]? = some 34) (ht : Txt w b o L) :
    Calls Try.prog 20 #[.slice (some ⟨b, o, none⟩) L.length cap, .int .i64 i] w fun e w' => e = .returned (.int .i64 (i + 1 + fwd (L.drop (i.toNat + 1)))) ∧ w' = w := by
  obtain ⟨i0, rfl⟩ := Int.eq_ofNat_of_zero_le h0
  rw [Int.toNat_natCast] at hi ⊢
  have hil := lt_of_at hi
  have Hi : Hid (L[i0]? = some 34) := hi
  clear hi
  go_enter Try.func20, Try.ntmps20
  go_wp2_with fail
  go_loop [1] (fun kv => ∃ k : Nat, i0 + 1 ≤ k ∧ k ≤ L.length ∧ kv = .int .i64 k ∧ Hid (k + fwd (L.drop k) = i0 + 1 + fwd (L.drop (i0 + 1))) ∧ Hid (L[k - 1]? = some 34)) (fun kv => L.length - (intOf kv).toNat)
  case atStart => exact ⟨i0 + 1, by omega, by omega, by go_num, rfl, (by rw [Nat.add_sub_cancel]; exact Hi.out)⟩
  case round =>
    obtain ⟨k, hk1, hk2, rfl, hE, hQ⟩ := hrel
    by_cases hlt : k < L.length
    · have htk := ht.drop k
      have hge := Lib.indexByte_ge (L.drop k) 34
      by_cases hneg : Lib.indexByte (L.drop k) 34 < 0
      · have Hr : Hid (Lib.indexByte (L.drop k) 34 = -1) := by show Lib.indexByte (L.drop k) 34 = -1; omega
        have Hfin : Hid (L.length = i0 + 1 + fwd (L.drop (i0 + 1))) := (round_none (by omega) hneg).symm.trans hE.out
        clear hge hneg
        go_wp2_with fail
        refine (ib_any b (o + k) _ _ (L.drop k) _ (by simp) htk (-1) Hr).mono ?_
        rintro e w1 ⟨rfl, rfl⟩
        go_wp2_with fail
        go_ret
        exact ⟨ret_int (by have := Hfin.out; omega), rfl⟩
      · obtain ⟨m, hm⟩ := Int.eq_ofNat_of_zero_le (show 0 ≤ Lib.indexByte (L.drop k) 34 by omega)
        have Hr : Hid (Lib.indexByte (L.drop k) 34 = (m : Int)) := hm
        have hml : k + m < L.length := lt_of_at (ix_drop hm).1
        have Hq2 : Hid (L[k + m]? = some 34) := (ix_drop hm).1
        clear hge hneg hm
        go_wp2_with fail
        refine (ib_any b (o + k) _ _ (L.drop k) _ (by simp) htk m Hr).mono ?_
        rintro e w1 ⟨rfl, rfl⟩
        go_wp2_with fail
        go_loop [6] (fun qv => ∃ q : Nat, q ≤ m ∧ qv = .int .i64 q ∧ Hid (∀ j, j < q → L[k + m - 1 - j]? = some 92)) (fun qv => m - (intOf qv).toNat)
        case atStart => exact ⟨0, by omega, rfl, (by intro j hj; omega)⟩
        case round =>
          obtain ⟨q, hq, rfl, hA⟩ := hrel
          obtain ⟨c, hc⟩ : ∃ c, L[k + m - 1 - q]? = some c := ⟨L[k + m - 1 - q], List.getElem?_eq_getElem (by omega)⟩
          have hcell := ht _ _ hc
          have Hc : Hid (L[k + m - 1 - q]? = some c) := hc
          clear hc htk
          by_cases h92 : ((c.toNat : Int) == 92) = true
          · have hqm : q ≠ m := by
              intro e
              have h1 := at_is Hc 92 h92 (by decide)
              rw [show k + m - 1 - q = k - 1 from by omega, hQ.out] at h1
              revert h1; decide
            have hA' : Hid (∀ j, j < q + 1 → L[k + m - 1 - j]? = some 92) := by
              intro j hj
              by_cases e : j = q
              · rw [e]; exact at_is Hc 92 h92 (by decide)
              · exact hA.out j (by omega)
            clear hA
            go_wp2_with fail
            go_round
            case rel => exact ⟨q + 1, by omega, by go_num, hA'⟩
            case measure => simp [intOf]; omega
          · have h92' : ((c.toNat : Int) == 92) = false := by simpa using h92
            have Hh : Hid _ := round_hit Hr.out hq hA.out (.inr (by rw [Hc.out]; intro e; exact byte_ne c 92 h92' (by decide) (by simpa using e)))
            clear h92 hA
            by_cases hpar : (q : Int) % 2 = 0
            · have hp' : ((q : Int) % 2 == 0) = true := by simp [hpar]
              have Hfin : Hid (k + m + 1 = i0 + 1 + fwd (L.drop (i0 + 1))) := by
                have h1 := Hh.out
                rw [if_pos (by omega)] at h1
                exact h1.symm.trans hE.out
              clear hpar Hh
              go_wp2_with fail
              go_ret
              exact ⟨ret_int (by have := Hfin.out; omega), rfl⟩
            · have hp' : ((q : Int) % 2 == 0) = false := by simp [hpar]
              have Hfin : Hid (k + m + 1 + fwd (L.drop (k + m + 1)) = i0 + 1 + fwd (L.drop (i0 + 1))) := by
                have h1 := Hh.out
                rw [if_neg (by omega)] at h1
                exact h1.symm.trans hE.out
              clear hpar Hh
              go_wp2_with fail
              go_round
              case rel => exact ⟨k + m + 1, by omega, by omega, by go_num, Hfin, (by rw [Nat.add_sub_cancel]; exact Hq2.out)⟩
              case measure => simp [intOf]; omega
    · have Hfin : Hid (L.length = i0 + 1 + fwd (L.drop (i0 + 1))) := by
        have := hE.out
        rw [fwd_end L k (by omega)] at this
        show L.length = _
        omega
      go_wp2_with fail
      go_ret
      exact ⟨ret_int (by have := Hfin.out; omega), rfl⟩

set_option maxHeartbeats 400000 in
theorem zse_any (b o cap : Nat) (L : List UInt8) (i : Int) (w : World) (hL : L.length ≤ 2000000) (hcap : L.length ≤ cap) (hcap2 : cap ≤ 2000000) (h0 : 0 ≤ i) (hi : L[i.toNat]? = some 34) (ht : Txt w b o L) :
    Calls Try.prog 12 #[.slice (some ⟨b, o, none⟩) L.length cap, .int .i64 i] w fun e w' => e = .returned (.int .i64 (i + 1 + fwd (L.drop (i.toNat + 1)))) ∧ w' = w := by
  have Hi : Hid (L[i.toNat]? = some 34) := hi
  clear hi
  go_enter Try.func12, Try.ntmps12
  go_wp2_with fail
  refine (se_any b o cap L i _ hL hcap hcap2 h0 Hi.out ht).mono ?_
  rintro e w1 ⟨rfl, rfl⟩
  go_wp2_with fail
  go_ret
  exact ⟨rfl, rfl⟩

set_option maxHeartbeats 1000000 in
theorem model_any (b o cap : Nat) (L : List UInt8) (i : Int) (w : World) (hL : L.length ≤ 2000000) (h0 : 0 ≤ i) (hi : L[i.toNat]? = some 34) (ht : Txt w b o L) :
    Calls Try.prog 13 #[.slice (some ⟨b, o, none⟩) L.length cap, .int .i64 i] w fun e w' => e = .returned (.int .i64 (i + 1 + fwd (L.drop (i.toNat + 1)))) ∧ w' = w := by
  obtain ⟨i0, rfl⟩ := Int.eq_ofNat_of_zero_le h0
  rw [Int.toNat_natCast] at hi ⊢
  have hil := lt_of_at hi
  clear hi
  go_enter Try.func13, Try.ntmps13
  go_wp2_with fail
  go_loop [5] (fun jv => ∃ k : Nat, i0 + 1 ≤ k ∧ k ≤ L.length + 1 ∧ jv = .int .i64 k ∧ Hid (min k L.length + fwd (L.drop k) = i0 + 1 + fwd (L.drop (i0 + 1)))) (fun jv => L.length + 1 - (intOf jv).toNat)
  case atStart => exact ⟨i0 + 1, by omega, by omega, by go_num, (by show min (i0 + 1) L.length + _ = _; omega)⟩
  case round =>
    obtain ⟨k, hk1, hk2, rfl, hE⟩ := hrel
    by_cases hlt : k < L.length
    · obtain ⟨c, hc⟩ : ∃ c, L[k]? = some c := ⟨L[k], List.getElem?_eq_getElem hlt⟩
      have hcell := ht _ _ hc
      have Hc : Hid (L[k]? = some c) := hc
      clear hc
      by_cases h92 : ((c.toNat : Int) == 92) = true
      · have hE' : Hid (min (k + 2) L.length + fwd (L.drop (k + 2)) = i0 + 1 + fwd (L.drop (i0 + 1))) := by
          have h1 := at_is Hc 92 h92 (by decide)
          have h2 := hE.out
          show min (k + 2) L.length + _ = _
          by_cases h3 : k + 1 < L.length
          · have := fwd_at_bs h1 h3; omega
          · have := fwd_at_bs0 h1 (by omega)
            rw [fwd_end L (k + 2) (by omega)]; omega
        clear hE
        go_wp2_with fail
        go_round
        case rel => exact ⟨k + 2, by omega, by omega, by go_num, hE'⟩
        case measure => simp [intOf]; omega
      · have h92' : ((c.toNat : Int) == 92) = false := by simpa using h92
        clear h92
        by_cases h34 : ((c.toNat : Int) == 34) = true
        · have Hfin : Hid (k + 1 = i0 + 1 + fwd (L.drop (i0 + 1))) := by
            have h1 := fwd_at_quote (at_is Hc 34 h34 (by decide))
            have h2 := hE.out
            show k + 1 = _
            omega
          go_wp2_with fail
          go_ret
          exact ⟨ret_int (by have := Hfin.out; omega), rfl⟩
        · have h34' : ((c.toNat : Int) == 34) = false := by simpa using h34
          have hE' : Hid (min (k + 1) L.length + fwd (L.drop (k + 1)) = i0 + 1 + fwd (L.drop (i0 + 1))) := by
            have h1 := fwd_at_else Hc.out (byte_ne c 92 h92' (by decide)) (byte_ne c 34 h34' (by decide))
            have h2 := hE.out
            show min (k + 1) L.length + _ = _
            omega
          clear h34 hE
          go_wp2_with fail
          go_round
          case rel => exact ⟨k + 1, by omega, by omega, by go_num, hE'⟩
          case measure => simp [intOf]; omega
    · have Hfin : Hid (L.length = i0 + 1 + fwd (L.drop (i0 + 1))) := by
        have := hE.out
        rw [fwd_end L k (by omega)] at this
        show L.length = _
        omega
      go_wp2_with fail
      go_ret
      exact ⟨ret_int (by have := Hfin.out; omega), rfl⟩
end Go.Proofs.Qxb6601478a.Js
