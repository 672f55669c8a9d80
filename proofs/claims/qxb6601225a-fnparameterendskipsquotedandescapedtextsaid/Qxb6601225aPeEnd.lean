import Derived.Test.Qxb6601225aPeBack
/-
  THE WALK of parameterEnd.
-/
namespace Go.Proofs.Qxb6601225a.Pe
open Go.RowKit

/-! ### The callees' contracts at a place of the text -/
theorem drop_list (s : ByteArray) (k : Nat) : (s.extract k s.size).data.toList = s.data.toList.drop k := by
  rw [show (s.extract k s.size).data.toList = (s.extract k s.size).toList from (Lib.toList_data _).symm, Lib.extract_toList]
  rw [List.take_of_length_le (by simp)]

/-- Does the text at k begin with a dollar and b? -/
def pq (b : UInt8) (s : ByteArray) (k : Nat) : Bool := [36, b].isPrefixOf (s.data.toList.drop k)
theorem pq_any (b : UInt8) (s : ByteArray) (k : Nat) (w : World) :
    Calls Try.prog 37 #[.string (s.extract k s.size), .string ⟨#[36, b]⟩] w fun e w' => e = .returned (.bool (pq b s k)) ∧ w' = w := by
  have h := prefix_any (s.extract k s.size) ⟨#[36, b]⟩ w
  rw [drop_list] at h
  exact h
theorem pq_yes (b : UInt8) (s : ByteArray) (k : Nat) (h : pq b s k = true) (w : World) :
    Calls Try.prog 37 #[.string (s.extract k s.size), .string ⟨#[36, b]⟩] w fun e w' => e = .returned (.bool true) ∧ w' = w := by
  have := pq_any b s k w; rw [h] at this; exact this
theorem pq_no (b : UInt8) (s : ByteArray) (k : Nat) (h : pq b s k = false) (w : World) :
    Calls Try.prog 37 #[.string (s.extract k s.size), .string ⟨#[36, b]⟩] w fun e w' => e = .returned (.bool false) ∧ w' = w := by
  have := pq_any b s k w; rw [h] at this; exact this
theorem pq_len {b : UInt8} {s : ByteArray} {k : Nat} (h : pq b s k = true) : k + 2 ≤ s.size := by
  unfold pq at h
  have := (List.isPrefixOf_iff_prefix.1 h).length_le
  simp at this
  have h2 : s.data.toList.length = s.size := by simp
  omega

def ix (s : ByteArray) (j : Nat) : Int := Lib.indexByte (s.data.toList.drop j) 39
theorem ix_any (s : ByteArray) (j : Nat) (w : World) :
    Calls Try.prog 39 #[.string (s.extract j s.size), .int .u8 39] w fun e w' => e = .returned (.int .i64 (ix s j)) ∧ w' = w := by
  have h := index_any (s.extract j s.size) 39 w
  rw [drop_list] at h
  exact h
theorem ix_at (s : ByteArray) (j : Nat) (n : Int) (h : Hid (ix s j = n)) (w : World) :
    Calls Try.prog 39 #[.string (s.extract j s.size), .int .u8 39] w fun e w' => e = .returned (.int .i64 n) ∧ w' = w := by
  have := ix_any s j w; rw [h.out] at this; exact this

/-! ### The relations -/
/-- The whole text's answer, from the place k on. -/
structure Out (F : Nat) (s : ByteArray) (w wr : World) (k d f : Nat) : Prop where
  fuel : s.size < k + f
  eq : run F false 0 s.data.toList = sh k (run f false d (s.data.toList.drop k))
  bel : Below w.heap.size w wr

theorem Out.start (F : Nat) (s : ByteArray) (w : World) (hF : s.size < F) : Out F s w w 0 0 F := by
  refine ⟨by omega, ?_, Below.refl _ _⟩
  rw [List.drop_zero]
  have := run_ge F false 0 s.data.toList
  unfold sh
  split <;> omega

theorem Out.next {F : Nat} {s : ByteArray} {w wr wr' : World} {k d f k' d' : Nat} {m : Int} (h : Out F s w wr k d (f + 1))
    (e : run (f + 1) false d (s.data.toList.drop k) = sh m (run f false d' (s.data.toList.drop k'))) (hm : (k' : Int) = k + m) (hk : k < k') (hb : Below w.heap.size w wr') : Out F s w wr' k' d' f :=
  ⟨by have := h.fuel; omega, by rw [h.eq, e, sh_sh (by omega), hm], hb⟩

theorem Out.done {F : Nat} {s : ByteArray} {w wr : World} {k d f : Nat} (h : Out F s w wr k d f) (e : run f false d (s.data.toList.drop k) = -1) : -1 = run F false 0 s.data.toList := by
  rw [h.eq, e]; rfl

/-- The loop between double quotes, which began at k + 1, stands at j. -/
structure Inn (s : ByteArray) (w wr : World) (f0 k j f : Nat) : Prop where
  fuel : s.size < j + f
  pos : 1 ≤ f
  eq : run f0 true 0 (s.data.toList.drop (k + 1)) = sh ((j : Int) - (k + 1)) (run f true 0 (s.data.toList.drop j))
  bel : Below w.heap.size w wr

theorem Inn.start {s : ByteArray} {w wr : World} {f k : Nat} (hf : s.size < k + 1 + f ∧ 1 ≤ f) (hb : Below w.heap.size w wr) : Inn s w wr f k (k + 1) f := by
  refine ⟨hf.1, hf.2, ?_, hb⟩
  have := run_ge f true 0 (s.data.toList.drop (k + 1))
  unfold sh
  split <;> omega

theorem Inn.next {s : ByteArray} {w wr wr' : World} {f0 k j f j' : Nat} {m : Int} (h : Inn s w wr f0 k j (f + 1)) (hj : j < s.size)
    (e : run (f + 1) true 0 (s.data.toList.drop j) = sh m (run f true 0 (s.data.toList.drop j'))) (hm : (j' : Int) = j + m) (hk : j < j') (hb : Below w.heap.size w wr') : Inn s w wr' f0 k j' f :=
  ⟨by have := h.fuel; omega, by have := h.fuel; omega, by rw [h.eq, e, sh_sh (by omega), hm]; congr 1; omega, hb⟩

theorem Inn.close {s : ByteArray} {w wr : World} {f0 k j f : Nat} (h : Inn s w wr f0 k j f) (hj : k + 1 ≤ j) (e : run f true 0 (s.data.toList.drop j) = 0) :
    run f0 true 0 (s.data.toList.drop (k + 1)) = ((j - (k + 1) : Nat) : Int) := by
  rw [h.eq, e, sh_nn (by omega)]; omega
theorem Inn.stop {s : ByteArray} {w wr : World} {f0 k j f : Nat} (h : Inn s w wr f0 k j f) (e : run f true 0 (s.data.toList.drop j) = -1) :
    run f0 true 0 (s.data.toList.drop (k + 1)) < 0 := by
  rw [h.eq, e]; simp [sh]

theorem Out.dq {F : Nat} {s : ByteArray} {w wr wi : World} {k d f j g : Nat} (h : Out F s w wr k d (f + 1)) (hI : Inn s w wi f k j g) (hj : k + 1 ≤ j) (hq : Hid (s.data.toList[k]? = some 34))
    (e : run g true 0 (s.data.toList.drop j) = 0) : Out F s w wi (j + 1) d f := by
  have e2 := out_dq (f := f) (d := d) hq.out (hI.close hj e)
  rw [show k + (j - (k + 1)) + 2 = j + 1 from by omega] at e2
  exact h.next e2 (by omega) (by omega) hI.bel

/-- What is asked of the calls of itself: shorter texts. -/
def Rec (n : Nat) : Prop := ∀ (s : ByteArray) (F : Nat) (w : World), s.size < n → s.size < F → s.size ≤ 2000000 →
  Calls Try.prog 32 #[.string s] w fun e w' => e = .returned (.int .i64 (run F false 0 s.data.toList)) ∧ Below w.heap.size w w'

theorem Rec.at {s : ByteArray} (h : Rec s.size) (j F : Nat) (hj : 0 < j) (hs : s.size ≤ 2000000) (hl : j ≤ s.size) (hF : s.size < j + F) (r : Int) (hr : Hid (run F false 0 (s.data.toList.drop j) = r)) (w : World) :
    Calls Try.prog 32 #[.string (s.extract j s.size)] w fun e w' => e = .returned (.int .i64 r) ∧ Below w.heap.size w w' := by
  have hz : (s.extract j s.size).size = s.size - j := by simp [ByteArray.size_extract]
  have := h (s.extract j s.size) F w (by omega) (by omega) (by omega)
  rw [drop_list, hr.out] at this
  exact this

set_option maxHeartbeats 4000000 in
set_option maxRecDepth 100000 in
theorem pe_step (s : ByteArray) (F : Nat) (w : World) (hF : s.size < F) (hs : s.size ≤ 2000000) (hrec : Rec s.size) :
    Calls Try.prog 32 #[.string s] w fun e w' => e = .returned (.int .i64 (run F false 0 s.data.toList)) ∧ Below w.heap.size w w' := by
  have hO : Out F s w w 0 0 F := Out.start F s w hF
  go_enter Try.func32, Try.ntmps32
  go_wp2_with fail
  go_loopw [3, 4] (fun dv kv wr => ∃ (k d f : Nat), k ≤ s.size + 2 ∧ d ≤ k ∧ dv = .int .i64 d ∧ kv = .int .i64 k ∧ Out F s w wr k d f) (fun _ kv _ => s.size + 3 - (intOf kv).toNat)
  case atStart => exact ⟨0, 0, F, by omega, by omega, rfl, rfl, hO⟩
  case round =>
    obtain ⟨k, d, f, hk, hd, rfl, rfl, hO⟩ := hrel
    by_cases hlt : k < s.size
    · have Hat : Hid (s.data.toList[k]? = some s[k]) := at_byte s k hlt
      obtain ⟨f, rfl⟩ : ∃ f', f = f' + 1 := ⟨f - 1, by have := hO.fuel; omega⟩
      by_cases hb : ((s[k].toNat : Int) == 92) = true
      · have hO' : Out F s w wr (k + 2) d f := hO.next (m := 2) (out_bs (at_is Hat 92 hb (by decide))) (by omega) (by omega) hO.bel
        go_wp2_with fail
        go_roundw
        case rel => exact ⟨k + 2, d, f, by omega, by omega, rfl, by go_num, hO'⟩
        case measure => simp [intOf]; omega
      · have hb' : ((s[k].toNat : Int) == 92) = false := by simpa using hb
        have Hn92 : Hid (s[k] ≠ 92) := byte_ne _ 92 hb' (by decide)
        clear hb
        by_cases hp : pq 39 s k = true
        · have hlen := pq_len hp
          have hal : ansi (s.data.toList.drop (k + 2)) ≤ s.size - (k + 2) := by
            have := ansi_le _ (s.data.toList.drop (k + 2)) (Nat.le_refl _); simpa using this
          have hO' : Out F s w wr (k + 2 + ansi (s.data.toList.drop (k + 2)) + 1) d f := hO.next (out_dollar Hat.out Hn92.out hp) (by omega) (by omega) hO.bel
          go_wp2_with fail
          refine (pq_yes 39 s k hp _).mono ?_
          rintro e w1 ⟨rfl, rfl⟩
          go_wp2_with fail
          refine (ansi_any s _ _ hs (by omega) (by omega)).mono ?_
          rintro e w1 ⟨rfl, rfl⟩
          rw [show ((k : Int) + 2).toNat = k + 2 from by omega]
          go_wp2_with fail
          go_roundw
          case rel => exact ⟨k + 2 + ansi (s.data.toList.drop (k + 2)) + 1, d, f, by omega, by omega, rfl, by go_num, hO'⟩
          case measure => simp [intOf]; omega
        · have hp' : pq 39 s k = false := by simpa using hp
          clear hp
          have Hp : Hid (pq 39 s k = false) := hp'
          clear hp'
          by_cases hq : ((s[k].toNat : Int) == 39) = true
          · have hge := Lib.indexByte_ge (s.data.toList.drop (k + 1)) 39
            have hlt9 := index_lt (s.data.toList.drop (k + 1)) 39
            by_cases hneg : Lib.indexByte (s.data.toList.drop (k + 1)) 39 < 0
            · have Hix : Hid (ix s (k + 1) = -1) := by show ix s (k + 1) = -1; unfold ix; omega
              have Hfin : Hid (-1 = run F false 0 s.data.toList) := hO.done (out_sq_no (at_is Hat 39 hq (by decide)) hneg)
              clear hge hlt9 hneg
              go_wp2_with fail
              refine (pq_no 39 s k Hp.out _).mono ?_
              rintro e w1 ⟨rfl, rfl⟩
              go_wp2_with fail
              refine (ix_at s (k + 1) (-1) Hix _).mono ?_
              rintro e w1 ⟨rfl, rfl⟩
              go_wp2_with fail
              go_ret
              exact ⟨ret_int Hfin.out, hO.bel⟩
            · obtain ⟨n, hn⟩ := Int.eq_ofNat_of_zero_le (show 0 ≤ Lib.indexByte (s.data.toList.drop (k + 1)) 39 by omega)
              have Hix : Hid (ix s (k + 1) = (n : Int)) := hn
              have hnl : n < s.size - (k + 1) := by rw [hn] at hlt9; simp at hlt9; omega
              have hO' : Out F s w wr (k + n + 2) d f := hO.next (out_sq (at_is Hat 39 hq (by decide)) hn) (by omega) (by omega) hO.bel
              clear hge hlt9 hneg hn
              go_wp2_with fail
              refine (pq_no 39 s k Hp.out _).mono ?_
              rintro e w1 ⟨rfl, rfl⟩
              go_wp2_with fail
              refine (ix_at s (k + 1) n Hix _).mono ?_
              rintro e w1 ⟨rfl, rfl⟩
              go_wp2_with fail
              go_roundw
              case rel => exact ⟨k + n + 2, d, f, by omega, by omega, rfl, by go_num, hO'⟩
              case measure => simp [intOf]; omega
          · have hq' : ((s[k].toNat : Int) == 39) = false := by simpa using hq
            have Hn39 : Hid (s[k] ≠ 39) := byte_ne _ 39 hq' (by decide)
            clear hq
            by_cases hdq : ((s[k].toNat : Int) == 34) = true
            · have hI : Inn s w wr f k (k + 1) f := Inn.start (by have := hO.fuel; omega) hO.bel
              have HatQ : Hid (s.data.toList[k]? = some 34) := at_is Hat 34 hdq (by decide)
              go_wp2_with fail
              refine (pq_no 39 s k Hp.out _).mono ?_
              rintro e w1 ⟨rfl, rfl⟩
              go_wp2_with fail
              go_loopw [4] (fun jv wi => ∃ (j g : Nat), k + 1 ≤ j ∧ j ≤ s.size + 1 ∧ jv = .int .i64 j ∧ Inn s w wi f k j g) (fun jv _ => s.size + 3 - (intOf jv).toNat)
              case atStart => exact ⟨k + 1, f, by omega, by omega, by go_num, hI⟩
              case round =>
                clear hI
                obtain ⟨j, g, hj1, hj2, rfl, hI⟩ := hrel
                by_cases hlj : j < s.size
                · have Haj : Hid (s.data.toList[j]? = some s[j]) := at_byte s j hlj
                  obtain ⟨g, rfl⟩ : ∃ g', g = g' + 1 := ⟨g - 1, by have := hI.fuel; omega⟩
                  by_cases hz : (s[j].toNat : Int) = 34
                  · have hz' : ((s[j].toNat : Int) != 34) = false := by simp [hz]
                    have hz2 : ((s[j].toNat : Int) == 34) = true := by simp [hz]
                    have hO' : Out F s w _ (j + 1) d f := hO.dq hI hj1 HatQ (in_quote (at_is Haj 34 hz2 (by decide)))
                    clear hz hz2
                    go_wp2_with fail
                    go_roundw
                    case rel => exact ⟨j + 1, d, f, by omega, by omega, rfl, by go_num, hO'⟩
                    case measure => simp [intOf]; omega
                  · have hz' : ((s[j].toNat : Int) != 34) = true := by simp [hz]
                    have Hj34 : Hid (s[j] ≠ 34) := byte_ne _ 34 (by simpa using hz) (by decide)
                    clear hz
                    by_cases hjb : ((s[j].toNat : Int) == 92) = true
                    · have hI' : Inn s w _ f k (j + 2) g := hI.next hlj (m := 2) (in_bs (at_is Haj 92 hjb (by decide))) (by omega) (by omega) hI.bel
                      go_wp2_with fail
                      go_roundw
                      case rel => exact ⟨j + 2, g, by omega, by omega, by go_num, hI'⟩
                      case measure => simp [intOf]; omega
                    · have hjb' : ((s[j].toNat : Int) == 92) = false := by simpa using hjb
                      have Hj92 : Hid (s[j] ≠ 92) := byte_ne _ 92 hjb' (by decide)
                      clear hjb
                      by_cases hjq : ((s[j].toNat : Int) == 96) = true
                      · have hql : bq (s.data.toList.drop (j + 1)) ≤ s.size - (j + 1) := by
                          have := bq_le _ (s.data.toList.drop (j + 1)) (Nat.le_refl _); simpa using this
                        have hE := in_bq (f := g) (at_is Haj 96 hjq (by decide))
                        have HE : Hid _ := hE
                        clear hE
                        go_wp2_with fail
                        refine (bq_any s _ _ hs (by omega) (by omega)).mono ?_
                        rintro e w1 ⟨⟨tx, rfl⟩, hb1⟩
                        rw [show ((j : Int) + 1).toNat = j + 1 from by omega]
                        have hI' : Inn s w w1 f k (j + bq (s.data.toList.drop (j + 1)) + 1) g := hI.next hlj HE.out (by omega) (by omega) (hI.bel.trans (hb1.mono hI.bel.size))
                        go_wp2_with fail
                        go_roundw
                        case rel => exact ⟨j + bq (s.data.toList.drop (j + 1)) + 1, g, by omega, by omega, by go_num, hI'⟩
                        case measure => simp [intOf]; omega
                      · have hjq' : ((s[j].toNat : Int) == 96) = false := by simpa using hjq
                        have Hj96 : Hid (s[j] ≠ 96) := byte_ne _ 96 hjq' (by decide)
                        clear hjq
                        by_cases h40 : pq 40 s j = true
                        · have Hfin : Hid (-1 = run F false 0 s.data.toList) := hO.done (out_dq_no HatQ.out (hI.stop (in_paren Haj.out Hj34.out Hj92.out Hj96.out h40)))
                          have H40 : Hid (pq 40 s j = true) := h40
                          clear h40
                          go_wp2_with fail
                          refine (pq_yes 40 s j H40.out _).mono ?_
                          rintro e w1 ⟨rfl, rfl⟩
                          go_wp2_with fail
                          go_ret
                          exact ⟨ret_int Hfin.out, hI.bel⟩
                        · have H40 : Hid (pq 40 s j = false) := by show pq 40 s j = false; simpa using h40
                          clear h40
                          by_cases h123 : pq 123 s j = true
                          · have H123 : Hid (pq 123 s j = true) := h123
                            have hjl := pq_len h123
                            have hrl := run_lt g 0 (s.data.toList.drop (j + 2))
                            have hrg := run_ge g false 0 (s.data.toList.drop (j + 2))
                            by_cases hneg : run g false 0 (s.data.toList.drop (j + 2)) < 0
                            · have Hr : Hid (run g false 0 (s.data.toList.drop (j + 2)) = -1) := by show run g false 0 _ = -1; omega
                              have Hfin : Hid (-1 = run F false 0 s.data.toList) := hO.done (out_dq_no HatQ.out (hI.stop (in_brace_no Haj.out Hj34.out Hj92.out Hj96.out H40.out h123 hneg)))
                              have hfu : s.size < j + 2 + g := by have := hI.fuel; omega
                              clear h123 hrl hrg hneg
                              go_wp2_with fail
                              refine (pq_no 40 s j H40.out _).mono ?_
                              rintro e w1 ⟨rfl, rfl⟩
                              go_wp2_with fail
                              refine (pq_yes 123 s j H123.out _).mono ?_
                              rintro e w1 ⟨rfl, rfl⟩
                              go_wp2_with fail
                              refine (hrec.at (j + 2) g (by omega) hs hjl hfu (-1) Hr _).mono ?_
                              rintro e w1 ⟨rfl, hb1⟩
                              go_wp2_with fail
                              go_ret
                              exact ⟨ret_int Hfin.out, hI.bel.trans (hb1.mono hI.bel.size)⟩
                            · obtain ⟨n, hn⟩ := Int.eq_ofNat_of_zero_le (show 0 ≤ run g false 0 (s.data.toList.drop (j + 2)) by omega)
                              have Hr : Hid (run g false 0 (s.data.toList.drop (j + 2)) = (n : Int)) := hn
                              have hnl : n < s.size - (j + 2) := by rw [hn] at hrl; simp at hrl; omega
                              have HE : Hid _ := in_brace (f := g) Haj.out Hj34.out Hj92.out Hj96.out H40.out h123 hn
                              have hfu : s.size < j + 2 + g := by have := hI.fuel; omega
                              clear h123 hrl hrg hneg hn
                              go_wp2_with fail
                              refine (pq_no 40 s j H40.out _).mono ?_
                              rintro e w1 ⟨rfl, rfl⟩
                              go_wp2_with fail
                              refine (pq_yes 123 s j H123.out _).mono ?_
                              rintro e w1 ⟨rfl, rfl⟩
                              go_wp2_with fail
                              refine (hrec.at (j + 2) g (by omega) hs hjl hfu n Hr _).mono ?_
                              rintro e w1 ⟨rfl, hb1⟩
                              have hI' : Inn s w w1 f k (j + n + 3) g := hI.next hlj HE.out (by omega) (by omega) (hI.bel.trans (hb1.mono hI.bel.size))
                              go_wp2_with fail
                              go_roundw
                              case rel => exact ⟨j + n + 3, g, by omega, by omega, by go_num, hI'⟩
                              case measure => simp [intOf]; omega
                          · have H123 : Hid (pq 123 s j = false) := by show pq 123 s j = false; simpa using h123
                            have hI' : Inn s w _ f k (j + 1) g := hI.next hlj (m := 1) (in_else Haj.out Hj34.out Hj92.out Hj96.out H40.out H123.out) (by omega) (by omega) hI.bel
                            clear h123
                            go_wp2_with fail
                            refine (pq_no 40 s j H40.out _).mono ?_
                            rintro e w1 ⟨rfl, rfl⟩
                            go_wp2_with fail
                            refine (pq_no 123 s j H123.out _).mono ?_
                            rintro e w1 ⟨rfl, rfl⟩
                            go_wp2_with fail
                            go_roundw
                            case rel => exact ⟨j + 1, g, by omega, by omega, by go_num, hI'⟩
                            case measure => simp [intOf]; omega
                · obtain ⟨g, rfl⟩ : ∃ g', g = g' + 1 := ⟨g - 1, by have := hI.pos; omega⟩
                  have hO' : Out F s w _ (j + 1) d f := hO.dq hI hj1 HatQ (in_end _ _ _ (by simpa using hlj))
                  go_wp2_with fail
                  go_roundw
                  case rel => exact ⟨j + 1, d, f, by omega, by omega, rfl, by go_num, hO'⟩
                  case measure => simp [intOf]; omega
            · have hdq' : ((s[k].toNat : Int) == 34) = false := by simpa using hdq
              have Hn34 : Hid (s[k] ≠ 34) := byte_ne _ 34 hdq' (by decide)
              clear hdq
              by_cases ho : ((s[k].toNat : Int) == 123) = true
              · have hO' : Out F s w wr (k + 1) (d + 1) f := hO.next (m := 1) (out_open (at_is Hat 123 ho (by decide))) (by omega) (by omega) hO.bel
                go_wp2_with fail
                refine (pq_no 39 s k Hp.out _).mono ?_
                rintro e w1 ⟨rfl, rfl⟩
                go_wp2_with fail
                go_roundw
                case rel => exact ⟨k + 1, d + 1, f, by omega, by omega, by go_num, by go_num, hO'⟩
                case measure => simp [intOf]; omega
              · have ho' : ((s[k].toNat : Int) == 123) = false := by simpa using ho
                have Hn123 : Hid (s[k] ≠ 123) := byte_ne _ 123 ho' (by decide)
                clear ho
                by_cases hc : ((s[k].toNat : Int) == 125) = true
                · by_cases hd0 : d = 0
                  · subst hd0
                    have Hfin : Hid ((k : Int) = run F false 0 s.data.toList) := by
                      show (k : Int) = _
                      rw [hO.eq, out_close0 (at_is Hat 125 hc (by decide))]; simp [sh]
                    go_wp2_with fail
                    refine (pq_no 39 s k Hp.out _).mono ?_
                    rintro e w1 ⟨rfl, rfl⟩
                    go_wp2_with fail
                    go_ret
                    exact ⟨ret_int Hfin.out, hO.bel⟩
                  · have hO' : Out F s w wr (k + 1) (d - 1) f := hO.next (m := 1) (out_close (at_is Hat 125 hc (by decide)) hd0) (by omega) (by omega) hO.bel
                    go_wp2_with fail
                    refine (pq_no 39 s k Hp.out _).mono ?_
                    rintro e w1 ⟨rfl, rfl⟩
                    go_wp2_with fail
                    go_roundw
                    case rel => exact ⟨k + 1, d - 1, f, by omega, by omega, by go_num, by go_num, hO'⟩
                    case measure => simp [intOf]; omega
                · have hc' : ((s[k].toNat : Int) == 125) = false := by simpa using hc
                  have hO' : Out F s w wr (k + 1) d f := hO.next (m := 1) (out_else Hat.out Hn92.out Hp.out Hn39.out Hn34.out Hn123.out (byte_ne _ 125 hc' (by decide))) (by omega) (by omega) hO.bel
                  clear hc
                  go_wp2_with fail
                  refine (pq_no 39 s k Hp.out _).mono ?_
                  rintro e w1 ⟨rfl, rfl⟩
                  go_wp2_with fail
                  go_roundw
                  case rel => exact ⟨k + 1, d, f, by omega, by omega, rfl, by go_num, hO'⟩
                  case measure => simp [intOf]; omega
    · have Hfin : Hid (-1 = run F false 0 s.data.toList) := hO.done (out_end _ _ _ _ (by simpa using hlt))
      go_wp2_with fail
      go_ret
      exact ⟨ret_int Hfin.out, hO.bel⟩

theorem pe_rec (n : Nat) : Rec n := by
  induction n with
  | zero => intro s F w h; omega
  | succ n ih =>
    intro s F w h hF hs
    exact pe_step s F w hF hs (fun s' F' w' h' hF' hs' => ih s' F' w' (by omega) hF' hs')

/-- parameterEnd. -/
theorem pe_any (s : ByteArray) (F : Nat) (w : World) (hF : s.size < F) (hs : s.size ≤ 2000000) :
    Calls Try.prog 32 #[.string s] w fun e w' => e = .returned (.int .i64 (run F false 0 s.data.toList)) ∧ Below w.heap.size w w' :=
  pe_rec (s.size + 1) s F w (by omega) hF hs

set_option maxHeartbeats 400000 in
/-- Its exported name. -/
theorem zz_any (s : ByteArray) (F : Nat) (w : World) (hF : s.size < F) (hs : s.size ≤ 2000000) :
    Calls Try.prog 11 #[.string s] w fun e w' => e = .returned (.int .i64 (run F false 0 s.data.toList)) ∧ Below w.heap.size w w' := by
  go_enter Try.func11, Try.ntmps11
  go_wp2_with fail
  refine (pe_any s F _ hF hs).mono ?_
  rintro e w1 ⟨rfl, hb⟩
  go_wp2_with fail
  go_ret
  exact ⟨rfl, hb⟩
end Go.Proofs.Qxb6601225a.Pe
