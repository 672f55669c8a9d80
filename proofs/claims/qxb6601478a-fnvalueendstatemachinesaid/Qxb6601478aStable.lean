import Derived.Test.Qxb6601478aTops
/-
  THE WALK of the law 'stable under extension'.
-/
namespace Go.Proofs.Qxb6601478a.Js
open Go.RowKit

set_option maxHeartbeats 1000000 in
/-- Too long, or no place in the text. -/
theorem top5_out (a : Option Addr) (n cap : Nat) (a' : Option Addr) (n' cap' : Nat) (i : Int) (w : World) (g1 : n ≤ 9223372036854775807) (g2 : n' ≤ 9223372036854775807) (h : 1048576 < n + n' ∨ i < 0 ∨ (n : Int) ≤ i) :
    Calls Try.prog 5 #[.slice a n cap, .slice a' n' cap', .int .i64 i] w fun e w' => e = .returned (.bool true) ∧ w' = w := by
  by_cases h1 : 1048576 < n + n'
  · go_enter Try.func5, Try.ntmps5
    go_wp2_with fail
    refine (bytes14_no a n cap a' n' cap' i _ g1 g2 h1).mono ?_
    rintro e w1 ⟨rfl, rfl⟩
    go_wp2_with fail
    go_ret
    exact ⟨rfl, rfl⟩
  · by_cases h2 : i < 0
    · go_enter Try.func5, Try.ntmps5
      go_wp2_with fail
      refine (bytes14_yes a n cap a' n' cap' i _ (by omega)).mono ?_
      rintro e w1 ⟨rfl, rfl⟩
      go_wp2_with fail
      go_ret
      exact ⟨rfl, rfl⟩
    · have h3 : (n : Int) ≤ i := by omega
      clear h
      go_enter Try.func5, Try.ntmps5
      go_wp2_with fail
      refine (bytes14_yes a n cap a' n' cap' i _ (by omega)).mono ?_
      rintro e w1 ⟨rfl, rfl⟩
      go_wp2_with fail
      go_ret
      exact ⟨rfl, rfl⟩

/-- zzClone at whatever came in. -/
theorem clone_opt (a : Option Addr) (cap : Nat) (T : List UInt8) (w : World) (hT : T.length ≤ 1048576)
    (ha : (a = none ∧ T = [] ∧ cap = 0) ∨ ∃ x, a = some x ∧ (0 < T.length → ∃ b off, x = ⟨b, off, none⟩ ∧ b < w.heap.size ∧ Txt w b off T)) :
    Calls Try.prog 11 #[.slice a T.length cap] w fun e w' => ∃ (ta : Option Addr) (tc : Nat), e = .returned (.slice ta T.length tc) ∧ (0 < T.length → ∃ g, ta = some ⟨g, 0, none⟩ ∧ g < w'.heap.size ∧ Txt w' g 0 T) ∧ Below w.heap.size w w' := by
  rcases ha with ⟨rfl, rfl, rfl⟩ | ⟨x, rfl, hx⟩
  · exact (clone_nil w).mono fun e w' ⟨he, hw⟩ => ⟨none, 0, he, fun h => by simp at h, by rw [hw]; exact Below.refl _ _⟩
  · refine (clone_any x cap T w hT hx).mono fun e w' ⟨he, ho, hb⟩ => ⟨some ⟨w.heap.size, 0, none⟩, T.length, he, fun _ => ⟨w.heap.size, rfl, World.rowIs.lt ho, ho.txt⟩, hb⟩

theorem zse_n (b o n cap : Nat) (L : List UInt8) (hn : L.length = n) (i : Int) (w : World) (hL : n ≤ 2000000) (hcap : n ≤ cap) (hcap2 : cap ≤ 2000000) (h0 : 0 ≤ i) (hi : L[i.toNat]? = some 34) (ht : Txt w b o L) (r : Int) (hr : Hid (i + 1 + fwd (L.drop (i.toNat + 1)) = r)) :
    Calls Try.prog 12 #[.slice (some ⟨b, o, none⟩) n cap, .int .i64 i] w fun e w' => e = .returned (.int .i64 r) ∧ w' = w := by
  subst hn
  have := zse_any b o cap L i w hL hcap hcap2 h0 hi ht
  rw [hr.out] at this
  exact this

theorem make_sum (n m : Nat) (h : n + m ≤ 1048576) (wx : World) :
    (Instr.makeSlice 24 (.int .i64 ((n : Int) + (m : Int))) (.int .i64 ((n : Int) + (m : Int)))).run Try.prog wx = .ok (.slice (some ⟨wx.heap.size, 0, none⟩) (n + m) (n + m)) (wx.alloc (.cells (madeCells #[.int .u8 0] (n + m)) 5)) := by
  have := run_make_row' (P := Try.prog) 24 5 (.int .u8 0) 1 Try.underlying24 info5 rfl .i64 .i64 (n + m) (by omega) (by omega) wx
  rw [show ((n + m : Nat) : Int) = (n : Int) + (m : Int) from by omega] at this
  exact this

theorem Part.startJ (w : World) (D T : List UInt8) : Part w (w.alloc (.cells (madeCells #[.int .u8 0] (D.length + T.length)) 5)) (D ++ T) 0 := by
  have := Part.start w (D ++ T)
  rw [List.length_append] at this
  exact this
theorem Part.step {w wr : World} {L : List UInt8} {k : Nat} {c : UInt8} (h : Part w wr L k) (hc : L[k]? = some c) :
    wr.cell? ⟨w.heap.size, k, none⟩ = some (.int .u8 0) ∧ wr.frozen? ⟨w.heap.size, k, none⟩ = false ∧ Part w (wr.setCell ⟨w.heap.size, k, none⟩ (.int .u8 (c.toNat : Int))) L (k + 1) :=
  ⟨h.old (lt_of_at hc), h.row.frozen k, h.next hc⟩

/-- What the call has made by the time it joins the texts. -/
structure Made (w w2 : World) (D T : List UInt8) (ta : Option Addr) : Prop where
  own : Own w2 w.heap.size D
  lt : w.heap.size < w2.heap.size
  tail : 0 < T.length → ∃ g, ta = some ⟨g, 0, none⟩ ∧ g < w2.heap.size ∧ Txt w2 g 0 T
  bel : Below w.heap.size w w2
theorem Made.cell {w w2 wr : World} {D T : List UInt8} {ta : Option Addr} (h : Made w w2 D T ta) (hb : Below w2.heap.size w2 wr) {k : Nat} {c : UInt8} (hc : D[k]? = some c) :
    wr.cell? ⟨w.heap.size, k, none⟩ = some (.int .u8 (c.toNat : Int)) := by
  have := (h.own.keep hb h.lt).txt k c hc
  rwa [Nat.zero_add] at this
theorem Made.tcell {w w2 wr : World} {D T : List UInt8} {ta : Option Addr} (h : Made w w2 D T ta) (hb : Below w2.heap.size w2 wr) {k : Nat} {c : UInt8} (hc : T[k]? = some c) :
    ∃ g, ta = some ⟨g, 0, none⟩ ∧ wr.cell? ⟨g, k, none⟩ = some (.int .u8 (c.toNat : Int)) := by
  obtain ⟨g, e, hg, ht⟩ := h.tail (by have := lt_of_at hc; omega)
  have := (ht.keep hb hg) k c hc
  rw [Nat.zero_add] at this
  exact ⟨g, e, this⟩

set_option maxHeartbeats 4000000 in
set_option maxRecDepth 100000 in
/-- The law at a place of the text that holds a quote. -/
theorem top5_in (b off cap : Nat) (D : List UInt8) (a' : Option Addr) (cap' : Nat) (T : List UInt8) (i : Nat) (w : World) (hL : D.length + T.length ≤ 1048576) (h1 : i < D.length) (hb : b < w.heap.size) (ht : Txt w b off D) (hq : D[i]? = some 34)
    (ha : (a' = none ∧ T = [] ∧ cap' = 0) ∨ ∃ x, a' = some x ∧ (0 < T.length → ∃ b off, x = ⟨b, off, none⟩ ∧ b < w.heap.size ∧ Txt w b off T)) :
    Calls Try.prog 5 #[.slice (some ⟨b, off, none⟩) D.length cap, .slice a' T.length cap', .int .i64 (i : Int)] w fun e w' => e = .returned (.bool true) ∧ Below w.heap.size w w' := by
  have hcell := ht _ _ hq
  rw [show (((34 : UInt8).toNat : Nat) : Int) = 34 from rfl] at hcell
  have Hq : Hid (D[(i : Int).toNat]? = some 34) := by show D[(i : Int).toNat]? = some 34; rw [Int.toNat_natCast]; exact hq
  have HqJ : Hid ((D ++ T)[(i : Int).toNat]? = some 34) := by show (D ++ T)[(i : Int).toNat]? = some 34; rw [Int.toNat_natCast, List.getElem?_append_left h1]; exact hq
  have Hst : Hid _ := stable D T i h1
  have hfl := fwd_at_le D (i + 1) (by omega)
  have hfl2 := fwd_at_le (D ++ T) (i + 1) (by rw [List.length_append]; omega)
  rw [List.length_append] at hfl2
  have hm := make_sum D.length T.length hL
  have Hm : Hid _ := hm
  clear hm hq
  go_enter Try.func5, Try.ntmps5
  go_wp2_with fail
  refine (bytes14_yes _ _ _ _ _ _ _ _ hL).mono ?_
  rintro e w1 ⟨rfl, hw⟩; cases hw.symm
  go_wp2_with fail
  refine (clone_any ⟨b, off, none⟩ cap D _ (by omega) (fun _ => ⟨b, off, rfl, hb, ht⟩)).mono ?_
  rintro e w1 ⟨rfl, hown, hbel⟩
  go_wp2_with fail
  refine (clone_opt a' cap' T _ (by omega) ?ha).mono ?_
  case ha =>
    rcases ha with h | ⟨x, e, h⟩
    · exact .inl h
    · refine .inr ⟨x, e, fun h0 => ?_⟩
      obtain ⟨b', off', e', hb', ht'⟩ := h h0
      exact ⟨b', off', e', by have := hbel.size; omega, ht'.keep hbel hb'⟩
  rintro e w2 ⟨ta, tc, rfl, htail, hbel2⟩
  have hlt := World.rowIs.lt hown
  have hM : Made w w2 D T ta := ⟨hown.keep hbel2 hlt, by have := hbel2.size; omega, htail, hbel.trans (hbel2.mono hbel.size)⟩
  clear hown hbel hbel2 htail ha ht hcell
  go_wp2_with fail
  generalize hR : fwd (D.drop (i + 1)) = R at *
  generalize hR2 : fwd ((D ++ T).drop (i + 1)) = R2 at *
  have HR : Hid ((i : Int) + 1 + fwd (D.drop ((i : Int).toNat + 1)) = (i : Int) + 1 + (R : Int)) := by show _ = _; rw [Int.toNat_natCast, hR]
  have HR2 : Hid ((i : Int) + 1 + fwd ((D ++ T).drop ((i : Int).toNat + 1)) = (i : Int) + 1 + (R2 : Int)) := by show _ = _; rw [Int.toNat_natCast, hR2]
  clear hR hR2
  refine (zse_n w.heap.size 0 D.length D.length D rfl _ _ (by omega) (Nat.le_refl _) (by omega) (by omega) Hq.out hM.own.txt _ HR).mono ?_
  rintro e w3 ⟨rfl, hw⟩; cases hw.symm
  have hp := Part.startJ w2 D T
  have hm := Hm.out
  by_cases hlt2 : i + 1 + R < D.length
  · obtain ⟨s1, s2, s3⟩ := Hst.out.2 hlt2
    have hc34 := hM.cell (Below.refl _ _) s3
    rw [show (((34 : UInt8).toNat : Nat) : Int) = 34 from rfl] at hc34
    have Hs1 : Hid (i + 1 + R2 = i + 1 + R) := s1
    have Hs3 : Hid (D[i + R]? = some 34) := s3
    clear s1 s3 Hst
    go_wp2_with fail
    go_loopw [9] (fun kv wr => ∃ k : Nat, k ≤ D.length ∧ kv = .int .i64 k ∧ Part w2 wr (D ++ T) k) (fun kv _ => D.length - (intOf kv).toNat)
    case atStart => exact ⟨0, Nat.zero_le _, rfl, hp⟩
    case round =>
      clear hp hm
      obtain ⟨k, hk, rfl, hp⟩ := hrel
      by_cases hkl : k < D.length
      · obtain ⟨c, hc⟩ : ∃ c, D[k]? = some c := ⟨D[k], List.getElem?_eq_getElem hkl⟩
        have hcell := hM.cell hp.bel hc
        obtain ⟨hold, hfr, hn⟩ := hp.step (show (D ++ T)[k]? = some c by rw [List.getElem?_append_left hkl]; exact hc)
        clear hc
        go_wp2_with fail
        go_roundw
        case rel => exact ⟨k + 1, by omega, by go_num, hn⟩
        case measure => simp [intOf]; omega
      · have hkD : k = D.length := by omega
        have hp2 : Part w2 wr (D ++ T) (D.length + 0) := by rw [Nat.add_zero, ← hkD]; exact hp
        clear hkD hp
        go_wp2_with fail
        go_loopw [10] (fun kv ws => ∃ j : Nat, j ≤ T.length ∧ kv = .int .i64 j ∧ Part w2 ws (D ++ T) (D.length + j)) (fun kv _ => T.length - (intOf kv).toNat)
        case atStart => exact ⟨0, Nat.zero_le _, rfl, hp2⟩
        case round =>
          clear hp2
          obtain ⟨j, hj, rfl, hp⟩ := hrel
          by_cases hjl : j < T.length
          · obtain ⟨c, hc⟩ : ∃ c, T[j]? = some c := ⟨T[j], List.getElem?_eq_getElem hjl⟩
            obtain ⟨g, rfl, hcell⟩ := hM.tcell hp.bel hc
            obtain ⟨hold, hfr, hn⟩ := hp.step (show (D ++ T)[D.length + j]? = some c by rw [List.getElem?_append_right (by omega), Nat.add_sub_cancel_left]; exact hc)
            clear hc
            go_wp2_with fail
            go_roundw
            case rel => exact ⟨j + 1, by omega, by go_num, hn⟩
            case measure => simp [intOf]; omega
          · have hJ := hp.own (by rw [List.length_append]; omega)
            have hbelJ := hM.bel.trans (hp.bel.mono hM.bel.size)
            go_wp2_with fail
            refine (zse_n w2.heap.size 0 _ (D.length + T.length) (D ++ T) (by simp) _ _ (by omega) (Nat.le_refl _) (by omega) (by omega) HqJ.out hJ.txt _ HR2).mono ?_
            rintro e w3 ⟨rfl, hw⟩; cases hw.symm
            go_wp2_with fail
            go_ret
            exact ⟨ret_bool (beq_iff_eq.2 (by have := Hs1.out; omega)), hbelJ⟩
  · have hs0 := Hst.out.1
    clear Hst
    go_wp2_with fail
    go_loopw [9] (fun kv wr => ∃ k : Nat, k ≤ D.length ∧ kv = .int .i64 k ∧ Part w2 wr (D ++ T) k) (fun kv _ => D.length - (intOf kv).toNat)
    case atStart => exact ⟨0, Nat.zero_le _, rfl, hp⟩
    case round =>
      clear hp hm
      obtain ⟨k, hk, rfl, hp⟩ := hrel
      by_cases hkl : k < D.length
      · obtain ⟨c, hc⟩ : ∃ c, D[k]? = some c := ⟨D[k], List.getElem?_eq_getElem hkl⟩
        have hcell := hM.cell hp.bel hc
        obtain ⟨hold, hfr, hn⟩ := hp.step (show (D ++ T)[k]? = some c by rw [List.getElem?_append_left hkl]; exact hc)
        clear hc
        go_wp2_with fail
        go_roundw
        case rel => exact ⟨k + 1, by omega, by go_num, hn⟩
        case measure => simp [intOf]; omega
      · have hkD : k = D.length := by omega
        have hp2 : Part w2 wr (D ++ T) (D.length + 0) := by rw [Nat.add_zero, ← hkD]; exact hp
        clear hkD hp
        go_wp2_with fail
        go_loopw [10] (fun kv ws => ∃ j : Nat, j ≤ T.length ∧ kv = .int .i64 j ∧ Part w2 ws (D ++ T) (D.length + j)) (fun kv _ => T.length - (intOf kv).toNat)
        case atStart => exact ⟨0, Nat.zero_le _, rfl, hp2⟩
        case round =>
          clear hp2
          obtain ⟨j, hj, rfl, hp⟩ := hrel
          by_cases hjl : j < T.length
          · obtain ⟨c, hc⟩ : ∃ c, T[j]? = some c := ⟨T[j], List.getElem?_eq_getElem hjl⟩
            obtain ⟨g, rfl, hcell⟩ := hM.tcell hp.bel hc
            obtain ⟨hold, hfr, hn⟩ := hp.step (show (D ++ T)[D.length + j]? = some c by rw [List.getElem?_append_right (by omega), Nat.add_sub_cancel_left]; exact hc)
            clear hc
            go_wp2_with fail
            go_roundw
            case rel => exact ⟨j + 1, by omega, by go_num, hn⟩
            case measure => simp [intOf]; omega
          · have hJ := hp.own (by rw [List.length_append]; omega)
            have hbelJ := hM.bel.trans (hp.bel.mono hM.bel.size)
            go_wp2_with fail
            refine (zse_n w2.heap.size 0 _ (D.length + T.length) (D ++ T) (by simp) _ _ (by omega) (Nat.le_refl _) (by omega) (by omega) HqJ.out hJ.txt _ HR2).mono ?_
            rintro e w3 ⟨rfl, hw⟩; cases hw.symm
            go_wp2_with fail
            go_ret
            exact ⟨ret_bool (decide_eq_true (by omega)), hbelJ⟩

set_option maxHeartbeats 1000000 in
/-- The law at a place that holds another byte. -/
theorem top5_ne (b off cap : Nat) (D : List UInt8) (a' : Option Addr) (cap' n' : Nat) (i : Nat) (c : UInt8) (w : World) (hL : D.length + n' ≤ 1048576) (h1 : i < D.length) (ht : Txt w b off D) (hq : D[i]? = some c) (hne : c ≠ 34) :
    Calls Try.prog 5 #[.slice (some ⟨b, off, none⟩) D.length cap, .slice a' n' cap', .int .i64 (i : Int)] w fun e w' => e = .returned (.bool true) ∧ w' = w := by
  have hcell := ht _ _ hq
  have h34 : ((c.toNat : Int) != 34) = true := by
    rw [bne_iff_ne]
    intro e
    apply hne
    apply UInt8.toNat_inj.1
    rw [show (34 : UInt8).toNat = 34 from rfl]
    omega
  clear hq hne
  go_enter Try.func5, Try.ntmps5
  go_wp2_with fail
  refine (bytes14_yes _ _ _ _ _ _ _ _ hL).mono ?_
  rintro e w1 ⟨rfl, rfl⟩
  go_wp2_with fail
  go_ret
  exact ⟨rfl, rfl⟩
end Go.Proofs.Qxb6601478a.Js
