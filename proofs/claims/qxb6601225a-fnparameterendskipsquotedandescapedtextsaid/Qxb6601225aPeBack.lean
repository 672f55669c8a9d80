import Derived.Test.Qxb6601225aPeAnsi
import Derived.Test.Qxb6601225aShelf
/-
  THE WALK of backquotedText.
-/
namespace Go.Proofs.Qxb6601225a.Pe
open Go.RowKit

/-- Where the escape's byte stands among dollar, backquote, backslash. -/
def escIx (c : UInt8) : Int := Lib.indexByte [36, 96, 92] c
theorem escIx_yes {c : UInt8} (h : 0 ≤ escIx c) : esc c = true := by unfold esc; exact decide_eq_true h
theorem escIx_no {c : UInt8} (h : escIx c < 0) : esc c = false := by unfold esc; exact decide_eq_false (by unfold escIx at h; omega)
theorem esc_any (c : UInt8) (w : World) :
    Calls Try.prog 39 #[.string ⟨#[36, 96, 92]⟩, .int .u8 (c.toNat : Int)] w fun e w' => e = .returned (.int .i64 (escIx c)) ∧ w' = w := by
  have h := index_any ⟨#[36, 96, 92]⟩ (c.toNat : Int) w
  have e : ((c.toNat : Int).toNat.toUInt8) = c := by rw [Int.toNat_natCast]; exact UInt8.ofNat_toNat
  rw [e] at h
  exact h

theorem bq_fin {k n a b c : Nat} (h : Hid (k + a = b + c)) (hk : k ≤ n) (h0 : (a = 0 ∧ n ≤ k) ∨ (a = 1 ∧ k < n)) : min ((k : Int) + 1) (n : Int) = (b : Int) + (c : Int) := by
  have := h.out; omega
theorem ret_pair {t : ByteArray} {a b : Int} (h : a = b) : Ending.returned (.tuple #[.string t, .int .i64 a]) = .returned (.tuple #[.string t, .int .i64 b]) := by rw [h]

/-- What holds of the builder and the world at each round's head. -/
structure BqW (w wr : World) (k : Nat) (ts : List UInt8) : Prop where
  len : ts.length ≤ k
  is : Lib.IsBuilder 70 5 w.heap.size w.heap.size (Lib.byteCells ts) wr
  bel : Below w.heap.size w wr
theorem BqW.size {w wr : World} {k : Nat} {ts : List UInt8} (h : BqW w wr k ts) : w.heap.size ≤ wr.heap.size := h.bel.size
theorem BqW.next {w wr w1 : World} {k k' : Nat} {ts : List UInt8} {c : UInt8} (h : BqW w wr k ts) (hk : k < k')
    (h1 : Lib.BuilderAt 70 5 w.heap.size w.heap.size (.pointer (some ⟨w.heap.size, 0, none⟩)) (Lib.byteCells ts ++ [.int .u8 (c.toNat : Int)]) w1) (h2 : Below w.heap.size wr w1) : BqW w w1 k' (ts ++ [c]) :=
  ⟨by have := h.len; simp; omega, .inr (by rw [Lib.byteCells_append]; exact h1), h.bel.trans h2⟩

set_option maxHeartbeats 2000000 in
set_option maxRecDepth 100000 in
theorem bq_any (s : ByteArray) (i : Int) (w : World) (hs : s.size ≤ 2000000) (h0 : 0 ≤ i) (h1 : i ≤ s.size) :
    Calls Try.prog 40 #[.string s, .int .i64 i] w fun e w' => (∃ t : ByteArray, e = .returned (.tuple #[.string t, .int .i64 (i + bq (s.data.toList.drop i.toNat))])) ∧ Below w.heap.size w w' := by
  obtain ⟨i0, rfl⟩ := Int.eq_ofNat_of_zero_le h0
  rw [Int.toNat_natCast]
  have hfresh := Lib.fresh_isBuilder 70 5 w
  go_enter Try.func40, Try.ntmps40
  go_wp2_with fail
  go_loopw [1] (fun i wr => ∃ (k : Nat) (ts : List UInt8), k ≤ s.size ∧ i = .int .i64 k ∧ Hid (k + bq (s.data.toList.drop k) = i0 + bq (s.data.toList.drop i0)) ∧ BqW w wr k ts) (fun i _ => s.size + 1 - (intOf i).toNat)
  case atStart => exact ⟨i0, [], by omega, rfl, rfl, ⟨Nat.zero_le _, hfresh, (Below.refl _ _).alloc (Nat.le_refl _) _⟩⟩
  case round =>
    obtain ⟨k, ts, hk, rfl, hk2, hB⟩ := hrel
    clear hfresh
    by_cases hlt : k < s.size
    · have Hat : Hid (s.data.toList[k]? = some s[k]) := at_byte s k hlt
      by_cases hq : (s[k].toNat : Int) = 96
      · have hq' : ((s[k].toNat : Int) != 96) = false := by simp [hq]
        have hq2 : ((s[k].toNat : Int) == 96) = true := by simp [hq]
        have hone := bq_quote (at_is Hat 96 hq2 (by decide))
        have Hone : Hid (bq (s.data.toList.drop k) = 1) := hone
        clear hone hq hq2
        go_wp2_with fail
        refine (Try.Builder_String_any w.heap.size w.heap.size ts _ hB.is hB.size).mono ?_
        rintro e w1 ⟨rfl, hb1⟩
        go_wp2_with fail
        go_ret2
        exact ⟨⟨_, ret_pair (bq_fin hk2 hk (.inr ⟨Hone.out, hlt⟩))⟩, hB.bel.trans hb1⟩
      · have hq' : ((s[k].toNat : Int) != 96) = true := by simp [hq]
        have hne : s[k] ≠ 96 := byte_ne _ 96 (by simpa using hq) (by decide)
        have Hne : Hid (s[k] ≠ 96) := hne
        clear hne hq
        have hl2 : (Lib.byteCells ts).length + 1 ≤ 140737488355328 := by rw [Lib.byteCells_length]; have := hB.len; omega
        have Hl2 : Hid ((Lib.byteCells ts).length + 1 ≤ 140737488355328) := hl2
        clear hl2
        by_cases hb : ((s[k].toNat : Int) == 92) = true
        · by_cases hlt2 : k + 1 < s.size
          · have Hat2 : Hid (s.data.toList[k + 1]? = some s[k + 1]) := at_byte s (k + 1) hlt2
            by_cases he : 0 ≤ escIx s[k + 1]
            · have Hfin : Hid (k + 2 + bq (s.data.toList.drop (k + 2)) = i0 + bq (s.data.toList.drop i0)) := (bq_bs2 (at_is Hat 92 hb (by decide)) Hat2.out (escIx_yes he)).trans hk2.out
              clear hk2
              go_wp2_with fail
              refine (esc_any _ _).mono ?_
              rintro e w1 ⟨rfl, rfl⟩
              go_wp2_with fail
              refine (Try.Builder_WriteByte w.heap.size w.heap.size (Lib.byteCells ts) _ _ hB.is Hl2.out hB.size).mono ?_
              rintro e w2 ⟨rfl, h3, h4⟩
              go_wp2_with fail
              go_roundw
              case rel => exact ⟨k + 2, ts ++ [s[k + 1]], by omega, by go_num, Hfin, hB.next (by omega) h3 h4⟩
              case measure => simp [intOf]; omega
            · have he' : escIx s[k + 1] < 0 := by omega
              have Hfin : Hid (k + 1 + bq (s.data.toList.drop (k + 1)) = i0 + bq (s.data.toList.drop i0)) := (bq_bs1 (at_is Hat 92 hb (by decide)) Hat2.out (escIx_no he')).trans hk2.out
              clear hk2 he
              go_wp2_with fail
              refine (esc_any _ _).mono ?_
              rintro e w1 ⟨rfl, rfl⟩
              go_wp2_with fail
              refine (Try.Builder_WriteByte w.heap.size w.heap.size (Lib.byteCells ts) _ _ hB.is Hl2.out hB.size).mono ?_
              rintro e w2 ⟨rfl, h3, h4⟩
              go_wp2_with fail
              go_roundw
              case rel => exact ⟨k + 1, ts ++ [s[k]], by omega, by go_num, Hfin, hB.next (by omega) h3 h4⟩
              case measure => simp [intOf]; omega
          · have Hfin : Hid (k + 1 + bq (s.data.toList.drop (k + 1)) = i0 + bq (s.data.toList.drop i0)) := (bq_bs0 (at_is Hat 92 hb (by decide)) (by simpa using hlt2)).trans hk2.out
            clear hk2
            go_wp2_with fail
            refine (Try.Builder_WriteByte w.heap.size w.heap.size (Lib.byteCells ts) _ _ hB.is Hl2.out hB.size).mono ?_
            rintro e w2 ⟨rfl, h3, h4⟩
            go_wp2_with fail
            go_roundw
            case rel => exact ⟨k + 1, ts ++ [s[k]], by omega, by go_num, Hfin, hB.next (by omega) h3 h4⟩
            case measure => simp [intOf]; omega
        · have hb' : ((s[k].toNat : Int) == 92) = false := by simpa using hb
          have Hfin : Hid (k + 1 + bq (s.data.toList.drop (k + 1)) = i0 + bq (s.data.toList.drop i0)) := (bq_else Hat.out Hne.out (byte_ne _ 92 hb' (by decide))).trans hk2.out
          clear hb hk2
          go_wp2_with fail
          refine (Try.Builder_WriteByte w.heap.size w.heap.size (Lib.byteCells ts) _ _ hB.is Hl2.out hB.size).mono ?_
          rintro e w2 ⟨rfl, h3, h4⟩
          go_wp2_with fail
          go_roundw
          case rel => exact ⟨k + 1, ts ++ [s[k]], by omega, by go_num, Hfin, hB.next (by omega) h3 h4⟩
          case measure => simp [intOf]; omega
    · have Hone : Hid (bq (s.data.toList.drop k) = 0) := bq_end _ _ (by simpa using hlt)
      go_wp2_with fail
      refine (Try.Builder_String_any w.heap.size w.heap.size ts _ hB.is hB.size).mono ?_
      rintro e w1 ⟨rfl, hb1⟩
      go_wp2_with fail
      go_ret2
      exact ⟨⟨_, ret_pair (bq_fin hk2 hk (.inl ⟨Hone.out, by omega⟩))⟩, hB.bel.trans hb1⟩
end Go.Proofs.Qxb6601225a.Pe
