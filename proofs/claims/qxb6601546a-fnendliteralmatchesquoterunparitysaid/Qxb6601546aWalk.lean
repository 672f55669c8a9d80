import Derived.Test.Qxb6601546aRows
import Derived.Test.Qxb6601546aPlain
import Derived.WalkKit
import Derived.WalkLawsBesides
import Derived.Lib.Strings
import Derived.Lib.Slices
import Derived.Lib.Walk
import Derived.Lib.Bytealg
import Derived.Lib.Builder
import Derived.Deep.QuietTactic
import Derived.BigQuiet
import Derived.Outline
/-
  WALKS of endLiteral and of its model.
-/
namespace Go.Proofs.Qxb6601546a.Lx
open Go.RowKit

set_option maxHeartbeats 1000000 in
set_option maxRecDepth 100000 in
/-- internal/stringslite.IndexByte -/
theorem slite_any (s : ByteArray) (c : Int) (w : World) :
    Calls Try.prog 21 #[.string s, .int .u8 c] w fun e w' => e = .returned (.int .i64 (Lib.indexByte s.data.toList c.toNat.toUInt8)) ∧ w' = w := by
  go_enter Try.func21, Try.ntmps21
  go_wp2
  rw [run_callFunc_extern Try.func22 (by kernel_rfl) (by kernel_rfl) (by kernel_rfl) (e := Extern.BytealgIndexByte.indexByte) (by kernel_rfl), Lib.run_indexByteString]
  simp only [Result.andThen]
  rw [Oper.upon_value]
  go_wp2
  go_ret
  exact ⟨rfl, rfl⟩

set_option maxHeartbeats 400000 in
/-- strings.IndexByte -/
theorem index_any (s : ByteArray) (c : Int) (w : World) :
    Calls Try.prog 19 #[.string s, .int .u8 c] w fun e w' => e = .returned (.int .i64 (Lib.indexByte s.data.toList c.toNat.toUInt8)) ∧ w' = w := by
  go_enter Try.func19, Try.ntmps19
  go_wp2_with (go_at_call 21; refine (slite_any _ _ _).mono ?_; rintro e w' ⟨rfl, rfl⟩)
  go_ret
  exact ⟨rfl, rfl⟩

theorem drop_list (s : ByteArray) (k : Nat) : (s.extract k s.size).data.toList = s.data.toList.drop k := by
  rw [show (s.extract k s.size).data.toList = (s.extract k s.size).toList from (Lib.toList_data _).symm, Lib.extract_toList]
  rw [List.take_of_length_le (by simp)]
theorem ix_at (s : ByteArray) (j : Nat) (n : Int) (h : Hid (Lib.indexByte (s.data.toList.drop j) 39 = n)) (w : World) :
    Calls Try.prog 19 #[.string (s.extract j s.size), .int .u8 39] w fun e w' => e = .returned (.int .i64 n) ∧ w' = w := by
  have h2 := index_any (s.extract j s.size) 39 w
  rw [drop_list, show ((39 : Int).toNat.toUInt8) = 39 from rfl, h.out] at h2
  exact h2

/-- The lexer in its block. -/
def Lex (w : World) (g : Nat) (s : ByteArray) (k : Nat) : Prop := w.heap[g]? = some (.cells #[.string s, .int .i64 (k : Int)] 29 (0, 0))
theorem Lex.src {w : World} {g : Nat} {s : ByteArray} {k : Nat} (h : Lex w g s k) : w.cell? ⟨g, 0, none⟩ = some (.string s) := by rw [Lib.cell_of_heap h]; rfl
theorem Lex.pos {w : World} {g : Nat} {s : ByteArray} {k : Nat} (h : Lex w g s k) : w.cell? ⟨g, 1, none⟩ = some (.int .i64 (k : Int)) := by rw [Lib.cell_of_heap h]; rfl
theorem Lex.fr {w : World} {g : Nat} {s : ByteArray} {k : Nat} (h : Lex w g s k) : w.frozen? ⟨g, 1, none⟩ = false := Lib.frozen_of_heap h 1
theorem Lex.set {w : World} {g : Nat} {s : ByteArray} {k : Nat} (h : Lex w g s k) (j : Nat) : Lex (w.setCell ⟨g, 1, none⟩ (.int .i64 (j : Int))) g s j := by
  unfold Lex at h ⊢
  simp [World.setCell, Array.getElem?_modify, h]
theorem Lex.new (w : World) (s : ByteArray) (k : Nat) : Lex (w.alloc (.cells #[.string s, .int .i64 (k : Int)] 29)) w.heap.size s k := by
  show (w.heap.push _)[w.heap.size]? = _
  rw [Array.getElem?_push, if_pos rfl]
theorem Lex.drewN {w : World} {g : Nat} {s : ByteArray} {k : Nat} (h : Lex w g s k) (n : Nat) : Lex (w.drewN n) g s k := h
theorem Lex.put {w : World} {g : Nat} {s : ByteArray} {k : Nat} (h : Lex w g s k) {v : Int} {j : Nat} (hv : v = (j : Int)) : Lex (w.setCell ⟨g, 1, none⟩ (.int .i64 v)) g s j := by
  subst hv; exact h.set j
/-- The place that the block says. -/
def posOf (g : Nat) (w : World) : Nat := match w.cell? ⟨g, 1, none⟩ with | some (.int _ n) => n.toNat | _ => 0
theorem Lex.posOf {w : World} {g : Nat} {s : ByteArray} {k : Nat} (h : Lex w g s k) : Lx.posOf g w = k := by unfold Lx.posOf; rw [h.pos]; simp

theorem fin_round {w wr W : World} {g : Nat} {s : ByteArray} {k j p : Nat} (hL : Lex wr g s k) (hW : Lex W g s j) (hb : Below g w W) (hj : j ≤ s.size) (hkj : k < j) (hE : Hid (ans s.data.toList j = ans s.data.toList p)) :
    (∃ k, k ≤ s.size ∧ Lex W g s k ∧ Below g w W ∧ Hid (ans s.data.toList k = ans s.data.toList p)) ∧ s.size - Lx.posOf g W < s.size - Lx.posOf g wr := by
  refine ⟨⟨j, hj, hW, hb, hE⟩, ?_⟩
  rw [hW.posOf, hL.posOf]
  omega

theorem at_byte (s : ByteArray) (k : Nat) (h : k < s.size) : s.data.toList[k]? = some s[k] := by
  rw [List.getElem?_eq_getElem (by simpa using h)]; rfl
theorem byte_eq (c : UInt8) (n : Nat) (h : (((c.toNat : Int)) == (n : Int)) = true) (hn : n < 256) : c = n.toUInt8 := by
  have h' : (c.toNat : Int) = n := by simpa using h
  apply UInt8.toNat_inj.1
  rw [show (n.toUInt8).toNat = n % 256 from rfl]; omega
theorem byte_ne (c : UInt8) (n : Nat) (h : (((c.toNat : Int)) == (n : Int)) = false) (hn : n < 256) : c ≠ n.toUInt8 := by
  have h' : ¬ (c.toNat : Int) = n := by simpa using h
  intro e
  apply h'
  rw [e, show (n.toUInt8).toNat = n % 256 from rfl]; omega

set_option maxHeartbeats 2000000 in
set_option maxRecDepth 100000 in
/-- endLiteral. -/
theorem el_any (g : Nat) (s : ByteArray) (p : Nat) (w : World) (hs : s.size ≤ 2000000) (hp : p ≤ s.size) (hL : Lex w g s p) :
    Calls Try.prog 17 #[.pointer (some ⟨g, 0, none⟩)] w fun e w' => e = .returned (.bool (ans s.data.toList p).2) ∧ Lex w' g s (ans s.data.toList p).1 ∧ Below g w w' := by
  have hsz : s.data.toList.length = s.size := by simp
  have Hsz : Hid (s.data.toList.length = s.size) := hsz
  clear hsz
  have hb0 := Below.refl g w
  go_enter Try.func17, Try.ntmps17
  go_wp2_with fail
  go_loopw [3] (fun _ wr => ∃ k : Nat, k ≤ s.size ∧ Lex wr g s k ∧ Below g w wr ∧ Hid (ans s.data.toList k = ans s.data.toList p)) (fun _ wr => s.size - Lx.posOf g wr)
  case atStart => exact ⟨p, hp, hL, hb0, rfl⟩
  case round =>
    clear hL hb0
    obtain ⟨k, hk, hL, hb, hE⟩ := hrel
    have h0 := hL.src
    have h1 := hL.pos
    have hf := hL.fr
    have hge := Lib.indexByte_ge (s.data.toList.drop k) 39
    by_cases hneg : Lib.indexByte (s.data.toList.drop k) 39 < 0
    · have Hr : Hid (Lib.indexByte (s.data.toList.drop k) 39 = -1) := by show Lib.indexByte (s.data.toList.drop k) 39 = -1; omega
      have Hfin : Hid (ans s.data.toList p = (s.size, false)) := by
        show _ = _
        rw [← hE.out, round_none (by rw [Hsz.out]; exact hk) hneg, Hsz.out]
      clear hge hneg
      go_wp2_with fail
      go_quiet ((go_at_call 19; exact Calls.quiet_of_same (ix_at s k (-1) Hr _)))
      go_wp2_with fail
      go_ret
      rw [Hfin.out]
      exact ⟨rfl, (hL.drewN nq).set s.size, (below_drewN hb nq).setCell (p := ⟨g, 1, none⟩) (Nat.le_refl _) _⟩
    · obtain ⟨m, hm⟩ := Int.eq_ofNat_of_zero_le (show 0 ≤ Lib.indexByte (s.data.toList.drop k) 39 by omega)
      have Hr : Hid (Lib.indexByte (s.data.toList.drop k) 39 = (m : Int)) := hm
      have Hq : Hid (s.data.toList[k + m]? = some 39) := (ix_drop hm).1
      have hml : k + m < s.size := by have := lt_of_at Hq.out; rw [Hsz.out] at this; exact this
      have hE' : Hid (ans s.data.toList (k + m) = ans s.data.toList p) := (round_at hm).symm.trans hE.out
      clear hge hneg hm hE
      by_cases hend : k + (m + 1) = s.size
      · have g1 : ((k : Int) + ((m : Int) + 1) == (s.size : Int)) = true := beq_iff_eq.2 (by omega)
        have Hfin : Hid (ans s.data.toList p = (k + (m + 1), true)) := hE'.out.symm.trans (ans_last Hq.out (by rw [Hsz.out]; omega))
        clear hend
        go_wp2_with fail
        go_quiet ((go_at_call 19; exact Calls.quiet_of_same (ix_at s k m Hr _)))
        go_wp2_with fail
        go_quiet (fail)
        go_wp2_with fail
        go_ret
        rw [Hfin.out]
        exact ⟨rfl, ((hL.drewN _).put (j := k + (m + 1)) (by omega)).drewN _, below_drewN ((below_drewN hb _).setCell (p := ⟨g, 1, none⟩) (Nat.le_refl _) _) _⟩
      · have g1 : ((k : Int) + ((m : Int) + 1) == (s.size : Int)) = false := beq_eq_false_iff_ne.2 (by omega)
        have hlt : k + (m + 1) < s.size := by omega
        have Hat : Hid (s.data.toList[k + (m + 1)]? = some s[k + (m + 1)]) := at_byte s _ hlt
        have hlo : (0 : Int) ≤ (k : Int) + ((m : Int) + 1) := by omega
        have hhi : (k : Int) + ((m : Int) + 1) < (s.size : Int) := by omega
        clear hend
        by_cases hq : (s[k + (m + 1)].toNat : Int) = 39
        · have g2 : ((s[k + (m + 1)].toNat : Int) != 39) = false := by simp [hq]
          have hE2 : Hid (ans s.data.toList (k + (m + 2)) = ans s.data.toList p) := by
            have h2 : s.data.toList[k + m + 1]? = some 39 := by
              have := Hat.out
              rw [byte_eq s[k + (m + 1)] 39 (by simp [hq]) (by decide)] at this
              exact this
            exact (ans_pair Hq.out h2).symm.trans hE'.out
          clear hq hE'
          go_wp2_with fail
          go_quiet ((go_at_call 19; exact Calls.quiet_of_same (ix_at s k m Hr _)))
          go_wp2_with fail
          go_quiet (fail)
          go_wp2_with fail
          exact fin_round hL ((((hL.drewN _).put (j := k + (m + 1)) (by omega)).drewN _).put (j := k + (m + 2)) (by omega)) ((below_drewN ((below_drewN hb _).setCell (p := ⟨g, 1, none⟩) (Nat.le_refl _) _) _).setCell (p := ⟨g, 1, none⟩) (Nat.le_refl _) _) (by omega) (by omega) hE2
        · have g2 : ((s[k + (m + 1)].toNat : Int) != 39) = true := by simp [hq]
          have Hfin : Hid (ans s.data.toList p = (k + (m + 1), true)) := hE'.out.symm.trans (ans_close Hq.out Hat.out (byte_ne _ 39 (by simpa using hq) (by decide)))
          clear hq hE'
          go_wp2_with fail
          go_quiet ((go_at_call 19; exact Calls.quiet_of_same (ix_at s k m Hr _)))
          go_wp2_with fail
          go_quiet (fail)
          go_wp2_with fail
          go_ret
          rw [Hfin.out]
          exact ⟨rfl, ((hL.drewN _).put (j := k + (m + 1)) (by omega)).drewN _, below_drewN ((below_drewN hb _).setCell (p := ⟨g, 1, none⟩) (Nat.le_refl _) _) _⟩

set_option maxHeartbeats 1000000 in
/-- ZZEndLiteral. -/
theorem zel_any (s : ByteArray) (p : Int) (w : World) (hs : s.size ≤ 2000000) (h0 : 0 ≤ p) (hp : p ≤ s.size) (r : Nat) (ok : Bool) (hr : Hid (ans s.data.toList p.toNat = (r, ok))) :
    Calls Try.prog 12 #[.string s, .int .i64 p] w fun e w' => e = .returned (.tuple #[.int .i64 (r : Int), .bool ok]) ∧ Below w.heap.size w w' := by
  obtain ⟨k, rfl⟩ := Int.eq_ofNat_of_zero_le h0
  rw [Int.toNat_natCast] at hr
  have hn := Lex.new w s k
  go_enter Try.func12, Try.ntmps12
  go_wp2_with fail
  refine (el_any w.heap.size s k _ hs (by omega) hn).mono ?_
  rw [hr.out]
  rintro e w1 ⟨rfl, hL, hb⟩
  have h1 := hL.pos
  have hbel : Below w.heap.size w w1 := ((Below.refl _ _).alloc (Nat.le_refl _) _).trans hb
  go_wp2_with fail
  go_ret2
  exact ⟨rfl, hbel⟩

theorem ret_two {a b : Int} {c : Bool} (h : a = b) : Ending.returned (.tuple #[.int .i64 a, .bool c]) = .returned (.tuple #[.int .i64 b, .bool c]) := by rw [h]

set_option maxHeartbeats 2000000 in
set_option maxRecDepth 100000 in
/-- lawEndModel. -/
theorem model_any (s : ByteArray) (p : Int) (w : World) (hs : s.size ≤ 2000000) (h0 : 0 ≤ p) (hp : p ≤ s.size) (r : Nat) (ok : Bool) (hr : Hid (ans s.data.toList p.toNat = (r, ok))) :
    Calls Try.prog 13 #[.string s, .int .i64 p] w fun e w' => e = .returned (.tuple #[.int .i64 (r : Int), .bool ok]) ∧ w' = w := by
  obtain ⟨p0, rfl⟩ := Int.eq_ofNat_of_zero_le h0
  rw [Int.toNat_natCast] at hr
  have Hsz : Hid (s.data.toList.length = s.size) := by show _ = _; simp
  go_enter Try.func13, Try.ntmps13
  go_wp2_with fail
  go_loop [7] (fun jv => ∃ k : Nat, k ≤ s.size ∧ jv = .int .i64 k ∧ Hid (ans s.data.toList k = (r, ok))) (fun jv => s.size - (intOf jv).toNat)
  case atStart => exact ⟨p0, by omega, rfl, hr⟩
  case round =>
    clear hr
    obtain ⟨k, hk, rfl, hE⟩ := hrel
    by_cases hlt : k < s.size
    · have Hat : Hid (s.data.toList[k]? = some s[k]) := at_byte s k hlt
      by_cases hq : (s[k].toNat : Int) = 39
      · have g1 : ((s[k].toNat : Int) != 39) = false := by simp [hq]
        have Hq : Hid (s.data.toList[k]? = some 39) := by
          show _ = _
          rw [Hat.out, byte_eq s[k] 39 (by simp [hq]) (by decide)]; rfl
        clear hq
        go_wp2_with fail
        go_loop [8] (fun qv => ∃ q : Nat, k + q ≤ s.size ∧ qv = .int .i64 q ∧ Hid (∀ j, k ≤ j → j < k + q → s.data.toList[j]? = some 39)) (fun qv => s.size - k - (intOf qv).toNat)
        case atStart => exact ⟨0, by omega, rfl, (by intro j a b; omega)⟩
        case round =>
          obtain ⟨q, hq, rfl, hA⟩ := hrel
          by_cases hlq : k + q < s.size
          · have Haq : Hid (s.data.toList[k + q]? = some s[k + q]) := at_byte s _ hlq
            by_cases h39 : ((s[k + q].toNat : Int) == 39) = true
            · have hA' : Hid (∀ j, k ≤ j → j < k + (q + 1) → s.data.toList[j]? = some 39) := by
                intro j a b
                by_cases e : j = k + q
                · rw [e, Haq.out, byte_eq s[k + q] 39 h39 (by decide)]; rfl
                · exact hA.out j a (by omega)
              clear hA
              go_wp2_with fail
              go_round
              case rel => exact ⟨q + 1, by omega, by go_num, hA'⟩
              case measure => simp [intOf]; omega
            · have h39' : ((s[k + q].toNat : Int) == 39) = false := by simpa using h39
              have Hrun : Hid _ := ans_run s.data.toList q k hA.out (by rw [Haq.out]; intro e; exact byte_ne s[k + q] 39 h39' (by decide) (by simpa using e))
              have hqp : q ≠ 0 := by
                intro e
                subst e
                have h2 : s.data.toList[k]? = some s[k + 0] := Haq.out
                rw [Hq.out] at h2
                exact byte_ne s[k + 0] 39 h39' (by decide) (Option.some.inj h2).symm
              clear h39 hA
              by_cases hpar : (q : Int) % 2 = 1
              · have gp : ((q : Int) % 2 == 1) = true := by simp [hpar]
                have Hfin : Hid (k + q = r ∧ true = ok) := by
                  have h1 := Hrun.out
                  rw [if_pos (by omega), hE.out] at h1
                  exact ⟨(Prod.mk.inj h1).1.symm, (Prod.mk.inj h1).2.symm⟩
                clear hpar Hrun
                go_wp2_with fail
                go_ret2
                exact ⟨by rw [← Hfin.out.1, ← Hfin.out.2]; exact ret_two (by omega), rfl⟩
              · have gp : ((q : Int) % 2 == 1) = false := by simp [hpar]
                have hE' : Hid (ans s.data.toList (k + q) = (r, ok)) := by
                  have h1 := Hrun.out
                  rw [if_neg (by omega), hE.out] at h1
                  exact h1.symm
                clear hpar Hrun hE
                go_wp2_with fail
                go_round
                case rel => exact ⟨k + q, by omega, by go_num, hE'⟩
                case measure => simp [intOf]; omega
          · have Hrun : Hid _ := ans_run s.data.toList q k hA.out (by rw [List.getElem?_eq_none (by rw [Hsz.out]; omega)]; simp)
            have hqp : q ≠ 0 := by omega
            clear hA
            by_cases hpar : (q : Int) % 2 = 1
            · have gp : ((q : Int) % 2 == 1) = true := by simp [hpar]
              have Hfin : Hid (k + q = r ∧ true = ok) := by
                have h1 := Hrun.out
                rw [if_pos (by omega), hE.out] at h1
                exact ⟨(Prod.mk.inj h1).1.symm, (Prod.mk.inj h1).2.symm⟩
              clear hpar Hrun
              go_wp2_with fail
              go_ret2
              exact ⟨by rw [← Hfin.out.1, ← Hfin.out.2]; exact ret_two (by omega), rfl⟩
            · have gp : ((q : Int) % 2 == 1) = false := by simp [hpar]
              have hE' : Hid (ans s.data.toList (k + q) = (r, ok)) := by
                have h1 := Hrun.out
                rw [if_neg (by omega), hE.out] at h1
                exact h1.symm
              clear hpar Hrun hE
              go_wp2_with fail
              go_round
              case rel => exact ⟨k + q, by omega, by go_num, hE'⟩
              case measure => simp [intOf]; omega
      · have g1 : ((s[k].toNat : Int) != 39) = true := by simp [hq]
        have hE' : Hid (ans s.data.toList (k + 1) = (r, ok)) := (ans_step Hat.out (byte_ne s[k] 39 (by simpa using hq) (by decide))).symm.trans hE.out
        clear hq hE
        go_wp2_with fail
        go_round
        case rel => exact ⟨k + 1, by omega, by go_num, hE'⟩
        case measure => simp [intOf]; omega
    · have Hfin : Hid ((s.size : Nat) = r ∧ false = ok) := by
        have h1 := hE.out
        rw [show k = s.size from by omega, ← Hsz.out, ans_end, Hsz.out] at h1
        exact ⟨(Prod.mk.inj h1).1, (Prod.mk.inj h1).2⟩
      go_wp2_with fail
      go_ret2
      exact ⟨by rw [Hfin.out.1, Hfin.out.2]; rfl, rfl⟩
end Go.Proofs.Qxb6601546a.Lx
