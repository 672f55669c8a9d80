import Derived.Test.Qxb6601478aVTops
/-
  THE WALK of the state machine and of its law.
-/
namespace Go.Proofs.Qxb6601478a.Js
open Go.RowKit

/-- Is the byte a separator? -/
def sepB (c : UInt8) : Bool := decide (0 ≤ sepIx c)
theorem sepB_iff (c : UInt8) : sepB c = true ↔ (c = 44 ∨ c = 125 ∨ c = 93 ∨ c = 32 ∨ c = 9 ∨ c = 13 ∨ c = 10) := by
  have : ∀ n : Fin 256, (decide (0 ≤ sepIx n.val.toUInt8) = true ↔ (n.val.toUInt8 = 44 ∨ n.val.toUInt8 = 125 ∨ n.val.toUInt8 = 93 ∨ n.val.toUInt8 = 32 ∨ n.val.toUInt8 = 9 ∨ n.val.toUInt8 = 13 ∨ n.val.toUInt8 = 10)) := by decide +kernel
  have h := this ⟨c.toNat, c.toNat_lt⟩
  simpa [sepB] using h

theorem neq_byte {c : UInt8} {n : Nat} (h : c ≠ n.toUInt8) (hn : n < 256) : ((c.toNat : Int) != (n : Int)) = true := by
  rw [bne_iff_ne]
  intro e
  apply h
  apply UInt8.toNat_inj.1
  rw [show (n.toUInt8).toNat = n % 256 from rfl]
  omega
theorem sep_yes (c : UInt8) (n : Nat) (h : ((c.toNat : Int) == (n : Int)) = true) (hn : n < 256) (hs : sepB n.toUInt8 = true) : true = sepB c := by
  rw [byte_eq c n h hn, hs]
theorem sep_no (c : UInt8) (h1 : ((c.toNat : Int) == 44) = false) (h2 : ((c.toNat : Int) == 125) = false) (h3 : ((c.toNat : Int) == 93) = false) (h4 : ((c.toNat : Int) == 32) = false) (h5 : ((c.toNat : Int) == 9) = false) (h6 : ((c.toNat : Int) == 13) = false) (h7 : ((c.toNat : Int) == 10) = false) : false = sepB c := by
  symm
  rw [← Bool.not_eq_true, sepB_iff]
  intro h
  rcases h with h | h | h | h | h | h | h
  · exact byte_ne c 44 h1 (by decide) h
  · exact byte_ne c 125 h2 (by decide) h
  · exact byte_ne c 93 h3 (by decide) h
  · exact byte_ne c 32 h4 (by decide) h
  · exact byte_ne c 9 h5 (by decide) h
  · exact byte_ne c 13 h6 (by decide) h
  · exact byte_ne c 10 h7 (by decide) h

set_option maxHeartbeats 400000 in
/-- zzIsSeparator. -/
theorem isSep_any (c : UInt8) (w : World) (r : Bool) (hr : Hid (sepB c = r)) : Calls Try.prog 22 #[.int .u8 (c.toNat : Int)] w fun e w' => e = .returned (.bool r) ∧ w' = w := by
  rw [← hr.out]
  clear hr
  go_enter Try.func22, Try.ntmps22
  go_wp2
  · go_ret
    exact ⟨ret_bool (sep_yes c 44 ‹_› (by decide) (by decide)), rfl⟩
  · go_ret
    exact ⟨ret_bool (sep_yes c 125 ‹_› (by decide) (by decide)), rfl⟩
  · go_ret
    exact ⟨ret_bool (sep_yes c 93 ‹_› (by decide) (by decide)), rfl⟩
  · go_ret
    exact ⟨ret_bool (sep_yes c 32 ‹_› (by decide) (by decide)), rfl⟩
  · go_ret
    exact ⟨ret_bool (sep_yes c 9 ‹_› (by decide) (by decide)), rfl⟩
  · go_ret
    exact ⟨ret_bool (sep_yes c 13 ‹_› (by decide) (by decide)), rfl⟩
  · go_ret
    exact ⟨ret_bool (sep_yes c 10 ‹_› (by decide) (by decide)), rfl⟩
  · go_ret
    exact ⟨ret_bool (sep_no c ‹_› ‹_› ‹_› ‹_› ‹_› ‹_› ‹_›), rfl⟩

/-- The machine's state: inside a string or not, an escape pending or not. -/
structure Mach (L : List UInt8) (i F j d f : Nat) (s e : Bool) : Prop where
  fuel : L.length < j + f
  st : (s = false ∧ e = false ∧ d = 0 ∧ j = i) ∨ (s = false ∧ e = false ∧ d ≠ 0 ∧ j + obj f d (L.drop j) = i + vs F (L.drop i)) ∨ (s = true ∧ j + ins f d e (L.drop j) = i + vs F (L.drop i))
theorem Mach.fin {L : List UInt8} {i F j d f : Nat} {s e : Bool} (h : Mach L i F j d f s e) (hi : i < L.length) (hj : L.length ≤ j) : j = i + vs F (L.drop i) := by
  rcases h.st with ⟨_, _, _, h1⟩ | ⟨_, _, _, h1⟩ | ⟨_, h1⟩
  · omega
  · rw [obj_end f d L j hj] at h1; omega
  · rw [ins_end f d e L j hj] at h1; omega

set_option maxHeartbeats 400000 in
/-- The model at the text's end. -/
theorem vm_end (a : Option Addr) (n cap : Nat) (w : World) :
    Calls Try.prog 17 #[.slice a n cap, .int .i64 (n : Int)] w fun e w' => e = .returned (.int .i64 (n : Int)) ∧ w' = w := by
  have h : ((n : Int) == (n : Int)) = true := by simp
  go_enter Try.func17, Try.ntmps17
  go_wp2_with fail
  go_ret
  exact ⟨rfl, rfl⟩

set_option maxHeartbeats 4000000 in
set_option maxRecDepth 100000 in
/-- The model at a bare value. -/
theorem vm_bare (b o cap : Nat) (L : List UInt8) (i F : Nat) (c : UInt8) (w : World) (hL : L.length ≤ 2000000) (hi : i < L.length) (ht : Txt w b o L) (hc : L[i]? = some c) (h34 : c ≠ 34) (hop : ¬ (c = 123 ∨ c = 91)) :
    Calls Try.prog 17 #[.slice (some ⟨b, o, none⟩) L.length cap, .int .i64 (i : Int)] w fun e w' => e = .returned (.int .i64 ((i + vs F (L.drop i) : Nat) : Int)) ∧ w' = w := by
  have hne : ((i : Int) == (L.length : Int)) = false := beq_eq_false_iff_ne.2 (by omega)
  have hcell := ht _ _ hc
  have Hb : Hid (vs F (L.drop i) = bare (L.drop i)) := vs_bare hc h34 hop
  have g34 : ((c.toNat : Int) != 34) = true := neq_byte h34 (by decide)
  have g123 : ((c.toNat : Int) != 123) = true := neq_byte (fun h => hop (.inl h)) (by decide)
  have g91 : ((c.toNat : Int) != 91) = true := neq_byte (fun h => hop (.inr h)) (by decide)
  clear hc h34 hop
  go_enter Try.func17, Try.ntmps17
  go_wp2_with fail
  go_loop [6] (fun kv => ∃ k : Nat, i ≤ k ∧ k ≤ L.length ∧ kv = .int .i64 k ∧ Hid (k + bare (L.drop k) = i + vs F (L.drop i))) (fun kv => L.length - (intOf kv).toNat)
  case atStart => exact ⟨i, Nat.le_refl _, by omega, rfl, (by rw [Hb.out]; rfl)⟩
  case round =>
    clear hcell
    obtain ⟨k, hk1, hk2, rfl, hE⟩ := hrel
    by_cases hlt : k < L.length
    · obtain ⟨e, he⟩ : ∃ e, L[k]? = some e := ⟨L[k], List.getElem?_eq_getElem hlt⟩
      have hcell := ht _ _ he
      have He : Hid (L[k]? = some e) := he
      clear he
      by_cases hs : 0 ≤ sepIx e
      · have Hfin : Hid (k = i + vs F (L.drop i)) := by
          have h1 := bare_sep He.out hs
          have h2 := hE.out
          show k = _
          omega
        have Hs : Hid (sepB e = true) := decide_eq_true hs
        clear hs
        go_wp2_with fail
        refine (isSep_any e _ _ Hs).mono ?_
        rintro e w1 ⟨rfl, rfl⟩
        go_wp2_with fail
        go_ret
        exact ⟨ret_int (by have := Hfin.out; omega), rfl⟩
      · have hE' : Hid (k + 1 + bare (L.drop (k + 1)) = i + vs F (L.drop i)) := (bare_else He.out (by omega)).symm.trans hE.out
        have Hs : Hid (sepB e = false) := decide_eq_false hs
        clear hs hE
        go_wp2_with fail
        refine (isSep_any e _ _ Hs).mono ?_
        rintro e w1 ⟨rfl, rfl⟩
        go_wp2_with fail
        go_round
        case rel => exact ⟨k + 1, by omega, by omega, by go_num, hE'⟩
        case measure => simp [intOf]; omega
    · have Hfin : Hid (k = i + vs F (L.drop i)) := by
        have h1 := bare_end L k (by omega)
        have h2 := hE.out
        show k = _
        omega
      go_wp2_with fail
      go_ret
      exact ⟨ret_int (by have := Hfin.out; omega), rfl⟩

set_option maxHeartbeats 8000000 in
set_option maxRecDepth 100000 in
/-- The machine's loop. -/
theorem vm_mach (b o cap : Nat) (L : List UInt8) (i F : Nat) (c : UInt8) (w : World) (hL : L.length ≤ 2000000) (hi : i < L.length) (hF : L.length < F) (ht : Txt w b o L) (hc : L[i]? = some c) (hop : c = 34 ∨ c = 123 ∨ c = 91) :
    Calls Try.prog 17 #[.slice (some ⟨b, o, none⟩) L.length cap, .int .i64 (i : Int)] w fun e w' => e = .returned (.int .i64 ((i + vs F (L.drop i) : Nat) : Int)) ∧ w' = w := by
  have hne : ((i : Int) == (L.length : Int)) = false := beq_eq_false_iff_ne.2 (by omega)
  have hcell := ht _ _ hc
  have Hc : Hid (L[i]? = some c) := hc
  have Hop : Hid (c = 34 ∨ c = 123 ∨ c = 91) := hop
  have hM : Mach L i F i 0 F false false := ⟨by omega, .inl ⟨rfl, rfl, rfl, rfl⟩⟩
  have hthree : ((c.toNat : Int) != 34) = false ∨ (((c.toNat : Int) != 34) = true ∧ ((c.toNat : Int) != 123) = false) ∨ (((c.toNat : Int) != 34) = true ∧ ((c.toNat : Int) != 123) = true ∧ ((c.toNat : Int) != 91) = false) := by
    rcases hop with h | h | h
    · left; rw [h]; decide
    · right; left; rw [h]; decide
    · right; right; rw [h]; decide
  clear hc hop
  rcases hthree with g34 | ⟨g34, g123⟩ | ⟨g34, g123, g91⟩
  · go_enter Try.func17, Try.ntmps17
    go_wp2_with fail
    go_loop [7, 8, 9, 10] (fun dv sv ev jv => ∃ (j d f : Nat) (s e : Bool), i ≤ j ∧ j ≤ L.length ∧ d ≤ j ∧ dv = .int .i64 d ∧ sv = .bool s ∧ ev = .bool e ∧ jv = .int .i64 j ∧ Mach L i F j d f s e) (fun _ _ _ jv => L.length - (intOf jv).toNat)
    case atStart => exact ⟨i, 0, F, false, false, by omega, by omega, by omega, rfl, rfl, rfl, rfl, hM⟩
    case round =>
      clear hcell hM
      obtain ⟨j, d, f, s, e, hj1, hj2, hdj, rfl, rfl, rfl, rfl, hM⟩ := hrel
      by_cases hlt : j < L.length
      · obtain ⟨x, hx⟩ : ∃ x, L[j]? = some x := ⟨L[j], List.getElem?_eq_getElem hlt⟩
        have hcell := ht _ _ hx
        have Hx : Hid (L[j]? = some x) := hx
        have hfu := hM.fuel
        clear hx
        rcases hM.st with ⟨rfl, rfl, rfl, rfl⟩ | ⟨rfl, rfl, hd, hE⟩ | ⟨rfl, hE⟩
        · have Hxc : Hid (x = c) := by have h1 := Hx.out; rw [Hc.out] at h1; exact (Option.some.inj h1).symm
          by_cases x34 : ((x.toNat : Int) == 34) = true
          · have hM' : Mach L j F (j + 1) 0 F true false := ⟨by omega, .inr (.inr ⟨rfl, (vs_ins (at_is Hx 34 x34 (by decide))).symm⟩)⟩
            clear hM
            go_wp2_with fail
            go_round
            case rel => exact ⟨j + 1, 0, F, true, false, by omega, by omega, by omega, by go_num, rfl, rfl, by go_num, hM'⟩
            case measure => simp [intOf]; omega
          · have x34' : ((x.toNat : Int) == 34) = false := by simpa using x34
            have Hxo : Hid (x = 123 ∨ x = 91) := by
              rcases Hop.out with h | h | h
              · exact absurd (Hxc.out.trans h) (byte_ne x 34 x34' (by decide))
              · exact .inl (Hxc.out.trans h)
              · exact .inr (Hxc.out.trans h)
            have hM' : Mach L j F (j + 1) 1 (F - 1) false false := ⟨by omega, .inr (.inl ⟨rfl, rfl, by decide, by
              rw [vs_obj Hx.out Hxo.out]
              have := obj_open (f := F - 1) (d := 0) Hx.out Hxo.out
              rw [show F - 1 + 1 = F from by omega, Nat.zero_add] at this
              omega⟩)⟩
            clear hM x34
            by_cases x123 : ((x.toNat : Int) == 123) = true
            · go_wp2_with fail
              go_round
              case rel => exact ⟨j + 1, 1, F - 1, false, false, by omega, by omega, by omega, by go_num, rfl, rfl, by go_num, hM'⟩
              case measure => simp [intOf]; omega
            · have x123' : ((x.toNat : Int) == 123) = false := by simpa using x123
              have x91 : ((x.toNat : Int) == 91) = true := by
                rcases Hxo.out with h | h
                · exact absurd (by rw [h]; decide) x123
                · rw [h]; decide
              clear x123
              go_wp2_with fail
              go_round
              case rel => exact ⟨j + 1, 1, F - 1, false, false, by omega, by omega, by omega, by go_num, rfl, rfl, by go_num, hM'⟩
              case measure => simp [intOf]; omega
        · obtain ⟨f, rfl⟩ : ∃ f', f = f' + 1 := ⟨f - 1, by omega⟩
          by_cases x34 : ((x.toNat : Int) == 34) = true
          · have hM' : Mach L i F (j + 1) d f true false := ⟨by omega, .inr (.inr ⟨rfl, (obj_ins (at_is Hx 34 x34 (by decide)) hd).symm.trans hE⟩)⟩
            clear hM hE
            go_wp2_with fail
            go_round
            case rel => exact ⟨j + 1, d, f, true, false, by omega, by omega, by omega, by go_num, rfl, rfl, by go_num, hM'⟩
            case measure => simp [intOf]; omega
          · have x34' : ((x.toNat : Int) == 34) = false := by simpa using x34
            have Hn34 : Hid (x ≠ 34) := byte_ne x 34 x34' (by decide)
            clear x34
            by_cases xop : ((x.toNat : Int) == 123) = true ∨ ((x.toNat : Int) == 91) = true
            · have Hxo : Hid (x = 123 ∨ x = 91) := by
                rcases xop with h | h
                · exact .inl (byte_eq x 123 h (by decide))
                · exact .inr (byte_eq x 91 h (by decide))
              have hM' : Mach L i F (j + 1) (d + 1) f false false := ⟨by omega, .inr (.inl ⟨rfl, rfl, by omega, (obj_open Hx.out Hxo.out).symm.trans hE⟩)⟩
              have hsp : ((x.toNat : Int) == 123) = true ∨ (((x.toNat : Int) == 123) = false ∧ ((x.toNat : Int) == 91) = true) := by
                by_cases h : ((x.toNat : Int) == 123) = true
                · exact .inl h
                · exact .inr ⟨by simpa using h, xop.resolve_left h⟩
              clear hM hE xop
              rcases hsp with x123 | ⟨x123, x91⟩
              · go_wp2_with fail
                go_round
                case rel => exact ⟨j + 1, d + 1, f, false, false, by omega, by omega, by omega, by go_num, rfl, rfl, by go_num, hM'⟩
                case measure => simp [intOf]; omega
              · go_wp2_with fail
                go_round
                case rel => exact ⟨j + 1, d + 1, f, false, false, by omega, by omega, by omega, by go_num, rfl, rfl, by go_num, hM'⟩
                case measure => simp [intOf]; omega
            · have x123 : ((x.toNat : Int) == 123) = false := by simpa using fun h => xop (.inl h)
              have x91 : ((x.toNat : Int) == 91) = false := by simpa using fun h => xop (.inr h)
              have Hno : Hid (¬ (x = 123 ∨ x = 91)) := by
                intro h
                rcases h with h | h
                · exact byte_ne x 123 x123 (by decide) h
                · exact byte_ne x 91 x91 (by decide) h
              clear xop
              by_cases xcl : ((x.toNat : Int) == 125) = true ∨ ((x.toNat : Int) == 93) = true
              · have Hcl : Hid (x = 125 ∨ x = 93) := by
                  rcases xcl with h | h
                  · exact .inl (byte_eq x 125 h (by decide))
                  · exact .inr (byte_eq x 93 h (by decide))
                have hsp : ((x.toNat : Int) == 125) = true ∨ (((x.toNat : Int) == 125) = false ∧ ((x.toNat : Int) == 93) = true) := by
                  by_cases h : ((x.toNat : Int) == 125) = true
                  · exact .inl h
                  · exact .inr ⟨by simpa using h, xcl.resolve_left h⟩
                clear xcl
                by_cases hd1 : d = 1
                · subst hd1
                  have Hfin : Hid (j + 1 = i + vs F (L.drop i)) := (obj_close1 Hx.out Hcl.out).symm.trans hE
                  clear hM hE
                  rcases hsp with x125 | ⟨x125, x93⟩
                  · go_wp2_with fail
                    go_ret
                    exact ⟨ret_int (by have := Hfin.out; omega), rfl⟩
                  · go_wp2_with fail
                    go_ret
                    exact ⟨ret_int (by have := Hfin.out; omega), rfl⟩
                · have hM' : Mach L i F (j + 1) (d - 1) f false false := ⟨by omega, .inr (.inl ⟨rfl, rfl, by omega, (obj_close Hx.out Hcl.out hd1).symm.trans hE⟩)⟩
                  clear hM hE
                  rcases hsp with x125 | ⟨x125, x93⟩
                  · go_wp2_with fail
                    go_round
                    case rel => exact ⟨j + 1, d - 1, f, false, false, by omega, by omega, by omega, by go_num, rfl, rfl, by go_num, hM'⟩
                    case measure => simp [intOf]; omega
                  · go_wp2_with fail
                    go_round
                    case rel => exact ⟨j + 1, d - 1, f, false, false, by omega, by omega, by omega, by go_num, rfl, rfl, by go_num, hM'⟩
                    case measure => simp [intOf]; omega
              · have x125 : ((x.toNat : Int) == 125) = false := by simpa using fun h => xcl (.inl h)
                have x93 : ((x.toNat : Int) == 93) = false := by simpa using fun h => xcl (.inr h)
                have Hncl : Hid (¬ (x = 125 ∨ x = 93)) := by
                  intro h
                  rcases h with h | h
                  · exact byte_ne x 125 x125 (by decide) h
                  · exact byte_ne x 93 x93 (by decide) h
                have hM' : Mach L i F (j + 1) d f false false := ⟨by omega, .inr (.inl ⟨rfl, rfl, hd, (obj_else Hx.out Hn34.out Hno.out Hncl.out).symm.trans hE⟩)⟩
                clear hM hE xcl
                go_wp2_with fail
                go_round
                case rel => exact ⟨j + 1, d, f, false, false, by omega, by omega, by omega, by go_num, rfl, rfl, by go_num, hM'⟩
                case measure => simp [intOf]; omega
        · cases e with
          | true =>
            have hM' : Mach L i F (j + 1) d f true false := ⟨by omega, .inr (.inr ⟨rfl, (ins_esc Hx.out).symm.trans hE⟩)⟩
            clear hM hE
            go_wp2_with fail
            go_round
            case rel => exact ⟨j + 1, d, f, true, false, by omega, by omega, by omega, by go_num, rfl, rfl, by go_num, hM'⟩
            case measure => simp [intOf]; omega
          | false =>
            by_cases x92 : ((x.toNat : Int) == 92) = true
            · have hM' : Mach L i F (j + 1) d f true true := ⟨by omega, .inr (.inr ⟨rfl, (ins_bs (at_is Hx 92 x92 (by decide))).symm.trans hE⟩)⟩
              clear hM hE
              go_wp2_with fail
              go_round
              case rel => exact ⟨j + 1, d, f, true, true, by omega, by omega, by omega, by go_num, rfl, rfl, by go_num, hM'⟩
              case measure => simp [intOf]; omega
            · have x92' : ((x.toNat : Int) == 92) = false := by simpa using x92
              clear x92
              by_cases x34 : ((x.toNat : Int) == 34) = true
              · by_cases hd : d = 0
                · subst hd
                  have Hfin : Hid (j + 1 = i + vs F (L.drop i)) := (ins_quote0 (at_is Hx 34 x34 (by decide))).symm.trans hE
                  clear hM hE
                  go_wp2_with fail
                  go_ret
                  exact ⟨ret_int (by have := Hfin.out; omega), rfl⟩
                · have hM' : Mach L i F (j + 1) d f false false := ⟨by omega, .inr (.inl ⟨rfl, rfl, hd, (ins_quote (at_is Hx 34 x34 (by decide)) hd).symm.trans hE⟩)⟩
                  clear hM hE
                  go_wp2_with fail
                  go_round
                  case rel => exact ⟨j + 1, d, f, false, false, by omega, by omega, by omega, by go_num, rfl, rfl, by go_num, hM'⟩
                  case measure => simp [intOf]; omega
              · have x34' : ((x.toNat : Int) == 34) = false := by simpa using x34
                have hM' : Mach L i F (j + 1) d f true false := ⟨by omega, .inr (.inr ⟨rfl, (ins_else Hx.out (byte_ne x 92 x92' (by decide)) (byte_ne x 34 x34' (by decide))).symm.trans hE⟩)⟩
                clear hM hE x34
                go_wp2_with fail
                go_round
                case rel => exact ⟨j + 1, d, f, true, false, by omega, by omega, by omega, by go_num, rfl, rfl, by go_num, hM'⟩
                case measure => simp [intOf]; omega
      · have Hfin : Hid (j = i + vs F (L.drop i)) := hM.fin hi (by omega)
        clear hM
        go_wp2_with fail
        go_ret
        exact ⟨ret_int (by have := Hfin.out; omega), rfl⟩
  · go_enter Try.func17, Try.ntmps17
    go_wp2_with fail
    go_loop [7, 8, 9, 10] (fun dv sv ev jv => ∃ (j d f : Nat) (s e : Bool), i ≤ j ∧ j ≤ L.length ∧ d ≤ j ∧ dv = .int .i64 d ∧ sv = .bool s ∧ ev = .bool e ∧ jv = .int .i64 j ∧ Mach L i F j d f s e) (fun _ _ _ jv => L.length - (intOf jv).toNat)
    case atStart => exact ⟨i, 0, F, false, false, by omega, by omega, by omega, rfl, rfl, rfl, rfl, hM⟩
    case round =>
      clear hcell hM
      obtain ⟨j, d, f, s, e, hj1, hj2, hdj, rfl, rfl, rfl, rfl, hM⟩ := hrel
      by_cases hlt : j < L.length
      · obtain ⟨x, hx⟩ : ∃ x, L[j]? = some x := ⟨L[j], List.getElem?_eq_getElem hlt⟩
        have hcell := ht _ _ hx
        have Hx : Hid (L[j]? = some x) := hx
        have hfu := hM.fuel
        clear hx
        rcases hM.st with ⟨rfl, rfl, rfl, rfl⟩ | ⟨rfl, rfl, hd, hE⟩ | ⟨rfl, hE⟩
        · have Hxc : Hid (x = c) := by have h1 := Hx.out; rw [Hc.out] at h1; exact (Option.some.inj h1).symm
          by_cases x34 : ((x.toNat : Int) == 34) = true
          · have hM' : Mach L j F (j + 1) 0 F true false := ⟨by omega, .inr (.inr ⟨rfl, (vs_ins (at_is Hx 34 x34 (by decide))).symm⟩)⟩
            clear hM
            go_wp2_with fail
            go_round
            case rel => exact ⟨j + 1, 0, F, true, false, by omega, by omega, by omega, by go_num, rfl, rfl, by go_num, hM'⟩
            case measure => simp [intOf]; omega
          · have x34' : ((x.toNat : Int) == 34) = false := by simpa using x34
            have Hxo : Hid (x = 123 ∨ x = 91) := by
              rcases Hop.out with h | h | h
              · exact absurd (Hxc.out.trans h) (byte_ne x 34 x34' (by decide))
              · exact .inl (Hxc.out.trans h)
              · exact .inr (Hxc.out.trans h)
            have hM' : Mach L j F (j + 1) 1 (F - 1) false false := ⟨by omega, .inr (.inl ⟨rfl, rfl, by decide, by
              rw [vs_obj Hx.out Hxo.out]
              have := obj_open (f := F - 1) (d := 0) Hx.out Hxo.out
              rw [show F - 1 + 1 = F from by omega, Nat.zero_add] at this
              omega⟩)⟩
            clear hM x34
            by_cases x123 : ((x.toNat : Int) == 123) = true
            · go_wp2_with fail
              go_round
              case rel => exact ⟨j + 1, 1, F - 1, false, false, by omega, by omega, by omega, by go_num, rfl, rfl, by go_num, hM'⟩
              case measure => simp [intOf]; omega
            · have x123' : ((x.toNat : Int) == 123) = false := by simpa using x123
              have x91 : ((x.toNat : Int) == 91) = true := by
                rcases Hxo.out with h | h
                · exact absurd (by rw [h]; decide) x123
                · rw [h]; decide
              clear x123
              go_wp2_with fail
              go_round
              case rel => exact ⟨j + 1, 1, F - 1, false, false, by omega, by omega, by omega, by go_num, rfl, rfl, by go_num, hM'⟩
              case measure => simp [intOf]; omega
        · obtain ⟨f, rfl⟩ : ∃ f', f = f' + 1 := ⟨f - 1, by omega⟩
          by_cases x34 : ((x.toNat : Int) == 34) = true
          · have hM' : Mach L i F (j + 1) d f true false := ⟨by omega, .inr (.inr ⟨rfl, (obj_ins (at_is Hx 34 x34 (by decide)) hd).symm.trans hE⟩)⟩
            clear hM hE
            go_wp2_with fail
            go_round
            case rel => exact ⟨j + 1, d, f, true, false, by omega, by omega, by omega, by go_num, rfl, rfl, by go_num, hM'⟩
            case measure => simp [intOf]; omega
          · have x34' : ((x.toNat : Int) == 34) = false := by simpa using x34
            have Hn34 : Hid (x ≠ 34) := byte_ne x 34 x34' (by decide)
            clear x34
            by_cases xop : ((x.toNat : Int) == 123) = true ∨ ((x.toNat : Int) == 91) = true
            · have Hxo : Hid (x = 123 ∨ x = 91) := by
                rcases xop with h | h
                · exact .inl (byte_eq x 123 h (by decide))
                · exact .inr (byte_eq x 91 h (by decide))
              have hM' : Mach L i F (j + 1) (d + 1) f false false := ⟨by omega, .inr (.inl ⟨rfl, rfl, by omega, (obj_open Hx.out Hxo.out).symm.trans hE⟩)⟩
              have hsp : ((x.toNat : Int) == 123) = true ∨ (((x.toNat : Int) == 123) = false ∧ ((x.toNat : Int) == 91) = true) := by
                by_cases h : ((x.toNat : Int) == 123) = true
                · exact .inl h
                · exact .inr ⟨by simpa using h, xop.resolve_left h⟩
              clear hM hE xop
              rcases hsp with x123 | ⟨x123, x91⟩
              · go_wp2_with fail
                go_round
                case rel => exact ⟨j + 1, d + 1, f, false, false, by omega, by omega, by omega, by go_num, rfl, rfl, by go_num, hM'⟩
                case measure => simp [intOf]; omega
              · go_wp2_with fail
                go_round
                case rel => exact ⟨j + 1, d + 1, f, false, false, by omega, by omega, by omega, by go_num, rfl, rfl, by go_num, hM'⟩
                case measure => simp [intOf]; omega
            · have x123 : ((x.toNat : Int) == 123) = false := by simpa using fun h => xop (.inl h)
              have x91 : ((x.toNat : Int) == 91) = false := by simpa using fun h => xop (.inr h)
              have Hno : Hid (¬ (x = 123 ∨ x = 91)) := by
                intro h
                rcases h with h | h
                · exact byte_ne x 123 x123 (by decide) h
                · exact byte_ne x 91 x91 (by decide) h
              clear xop
              by_cases xcl : ((x.toNat : Int) == 125) = true ∨ ((x.toNat : Int) == 93) = true
              · have Hcl : Hid (x = 125 ∨ x = 93) := by
                  rcases xcl with h | h
                  · exact .inl (byte_eq x 125 h (by decide))
                  · exact .inr (byte_eq x 93 h (by decide))
                have hsp : ((x.toNat : Int) == 125) = true ∨ (((x.toNat : Int) == 125) = false ∧ ((x.toNat : Int) == 93) = true) := by
                  by_cases h : ((x.toNat : Int) == 125) = true
                  · exact .inl h
                  · exact .inr ⟨by simpa using h, xcl.resolve_left h⟩
                clear xcl
                by_cases hd1 : d = 1
                · subst hd1
                  have Hfin : Hid (j + 1 = i + vs F (L.drop i)) := (obj_close1 Hx.out Hcl.out).symm.trans hE
                  clear hM hE
                  rcases hsp with x125 | ⟨x125, x93⟩
                  · go_wp2_with fail
                    go_ret
                    exact ⟨ret_int (by have := Hfin.out; omega), rfl⟩
                  · go_wp2_with fail
                    go_ret
                    exact ⟨ret_int (by have := Hfin.out; omega), rfl⟩
                · have hM' : Mach L i F (j + 1) (d - 1) f false false := ⟨by omega, .inr (.inl ⟨rfl, rfl, by omega, (obj_close Hx.out Hcl.out hd1).symm.trans hE⟩)⟩
                  clear hM hE
                  rcases hsp with x125 | ⟨x125, x93⟩
                  · go_wp2_with fail
                    go_round
                    case rel => exact ⟨j + 1, d - 1, f, false, false, by omega, by omega, by omega, by go_num, rfl, rfl, by go_num, hM'⟩
                    case measure => simp [intOf]; omega
                  · go_wp2_with fail
                    go_round
                    case rel => exact ⟨j + 1, d - 1, f, false, false, by omega, by omega, by omega, by go_num, rfl, rfl, by go_num, hM'⟩
                    case measure => simp [intOf]; omega
              · have x125 : ((x.toNat : Int) == 125) = false := by simpa using fun h => xcl (.inl h)
                have x93 : ((x.toNat : Int) == 93) = false := by simpa using fun h => xcl (.inr h)
                have Hncl : Hid (¬ (x = 125 ∨ x = 93)) := by
                  intro h
                  rcases h with h | h
                  · exact byte_ne x 125 x125 (by decide) h
                  · exact byte_ne x 93 x93 (by decide) h
                have hM' : Mach L i F (j + 1) d f false false := ⟨by omega, .inr (.inl ⟨rfl, rfl, hd, (obj_else Hx.out Hn34.out Hno.out Hncl.out).symm.trans hE⟩)⟩
                clear hM hE xcl
                go_wp2_with fail
                go_round
                case rel => exact ⟨j + 1, d, f, false, false, by omega, by omega, by omega, by go_num, rfl, rfl, by go_num, hM'⟩
                case measure => simp [intOf]; omega
        · cases e with
          | true =>
            have hM' : Mach L i F (j + 1) d f true false := ⟨by omega, .inr (.inr ⟨rfl, (ins_esc Hx.out).symm.trans hE⟩)⟩
            clear hM hE
            go_wp2_with fail
            go_round
            case rel => exact ⟨j + 1, d, f, true, false, by omega, by omega, by omega, by go_num, rfl, rfl, by go_num, hM'⟩
            case measure => simp [intOf]; omega
          | false =>
            by_cases x92 : ((x.toNat : Int) == 92) = true
            · have hM' : Mach L i F (j + 1) d f true true := ⟨by omega, .inr (.inr ⟨rfl, (ins_bs (at_is Hx 92 x92 (by decide))).symm.trans hE⟩)⟩
              clear hM hE
              go_wp2_with fail
              go_round
              case rel => exact ⟨j + 1, d, f, true, true, by omega, by omega, by omega, by go_num, rfl, rfl, by go_num, hM'⟩
              case measure => simp [intOf]; omega
            · have x92' : ((x.toNat : Int) == 92) = false := by simpa using x92
              clear x92
              by_cases x34 : ((x.toNat : Int) == 34) = true
              · by_cases hd : d = 0
                · subst hd
                  have Hfin : Hid (j + 1 = i + vs F (L.drop i)) := (ins_quote0 (at_is Hx 34 x34 (by decide))).symm.trans hE
                  clear hM hE
                  go_wp2_with fail
                  go_ret
                  exact ⟨ret_int (by have := Hfin.out; omega), rfl⟩
                · have hM' : Mach L i F (j + 1) d f false false := ⟨by omega, .inr (.inl ⟨rfl, rfl, hd, (ins_quote (at_is Hx 34 x34 (by decide)) hd).symm.trans hE⟩)⟩
                  clear hM hE
                  go_wp2_with fail
                  go_round
                  case rel => exact ⟨j + 1, d, f, false, false, by omega, by omega, by omega, by go_num, rfl, rfl, by go_num, hM'⟩
                  case measure => simp [intOf]; omega
              · have x34' : ((x.toNat : Int) == 34) = false := by simpa using x34
                have hM' : Mach L i F (j + 1) d f true false := ⟨by omega, .inr (.inr ⟨rfl, (ins_else Hx.out (byte_ne x 92 x92' (by decide)) (byte_ne x 34 x34' (by decide))).symm.trans hE⟩)⟩
                clear hM hE x34
                go_wp2_with fail
                go_round
                case rel => exact ⟨j + 1, d, f, true, false, by omega, by omega, by omega, by go_num, rfl, rfl, by go_num, hM'⟩
                case measure => simp [intOf]; omega
      · have Hfin : Hid (j = i + vs F (L.drop i)) := hM.fin hi (by omega)
        clear hM
        go_wp2_with fail
        go_ret
        exact ⟨ret_int (by have := Hfin.out; omega), rfl⟩
  · go_enter Try.func17, Try.ntmps17
    go_wp2_with fail
    go_loop [7, 8, 9, 10] (fun dv sv ev jv => ∃ (j d f : Nat) (s e : Bool), i ≤ j ∧ j ≤ L.length ∧ d ≤ j ∧ dv = .int .i64 d ∧ sv = .bool s ∧ ev = .bool e ∧ jv = .int .i64 j ∧ Mach L i F j d f s e) (fun _ _ _ jv => L.length - (intOf jv).toNat)
    case atStart => exact ⟨i, 0, F, false, false, by omega, by omega, by omega, rfl, rfl, rfl, rfl, hM⟩
    case round =>
      clear hcell hM
      obtain ⟨j, d, f, s, e, hj1, hj2, hdj, rfl, rfl, rfl, rfl, hM⟩ := hrel
      by_cases hlt : j < L.length
      · obtain ⟨x, hx⟩ : ∃ x, L[j]? = some x := ⟨L[j], List.getElem?_eq_getElem hlt⟩
        have hcell := ht _ _ hx
        have Hx : Hid (L[j]? = some x) := hx
        have hfu := hM.fuel
        clear hx
        rcases hM.st with ⟨rfl, rfl, rfl, rfl⟩ | ⟨rfl, rfl, hd, hE⟩ | ⟨rfl, hE⟩
        · have Hxc : Hid (x = c) := by have h1 := Hx.out; rw [Hc.out] at h1; exact (Option.some.inj h1).symm
          by_cases x34 : ((x.toNat : Int) == 34) = true
          · have hM' : Mach L j F (j + 1) 0 F true false := ⟨by omega, .inr (.inr ⟨rfl, (vs_ins (at_is Hx 34 x34 (by decide))).symm⟩)⟩
            clear hM
            go_wp2_with fail
            go_round
            case rel => exact ⟨j + 1, 0, F, true, false, by omega, by omega, by omega, by go_num, rfl, rfl, by go_num, hM'⟩
            case measure => simp [intOf]; omega
          · have x34' : ((x.toNat : Int) == 34) = false := by simpa using x34
            have Hxo : Hid (x = 123 ∨ x = 91) := by
              rcases Hop.out with h | h | h
              · exact absurd (Hxc.out.trans h) (byte_ne x 34 x34' (by decide))
              · exact .inl (Hxc.out.trans h)
              · exact .inr (Hxc.out.trans h)
            have hM' : Mach L j F (j + 1) 1 (F - 1) false false := ⟨by omega, .inr (.inl ⟨rfl, rfl, by decide, by
              rw [vs_obj Hx.out Hxo.out]
              have := obj_open (f := F - 1) (d := 0) Hx.out Hxo.out
              rw [show F - 1 + 1 = F from by omega, Nat.zero_add] at this
              omega⟩)⟩
            clear hM x34
            by_cases x123 : ((x.toNat : Int) == 123) = true
            · go_wp2_with fail
              go_round
              case rel => exact ⟨j + 1, 1, F - 1, false, false, by omega, by omega, by omega, by go_num, rfl, rfl, by go_num, hM'⟩
              case measure => simp [intOf]; omega
            · have x123' : ((x.toNat : Int) == 123) = false := by simpa using x123
              have x91 : ((x.toNat : Int) == 91) = true := by
                rcases Hxo.out with h | h
                · exact absurd (by rw [h]; decide) x123
                · rw [h]; decide
              clear x123
              go_wp2_with fail
              go_round
              case rel => exact ⟨j + 1, 1, F - 1, false, false, by omega, by omega, by omega, by go_num, rfl, rfl, by go_num, hM'⟩
              case measure => simp [intOf]; omega
        · obtain ⟨f, rfl⟩ : ∃ f', f = f' + 1 := ⟨f - 1, by omega⟩
          by_cases x34 : ((x.toNat : Int) == 34) = true
          · have hM' : Mach L i F (j + 1) d f true false := ⟨by omega, .inr (.inr ⟨rfl, (obj_ins (at_is Hx 34 x34 (by decide)) hd).symm.trans hE⟩)⟩
            clear hM hE
            go_wp2_with fail
            go_round
            case rel => exact ⟨j + 1, d, f, true, false, by omega, by omega, by omega, by go_num, rfl, rfl, by go_num, hM'⟩
            case measure => simp [intOf]; omega
          · have x34' : ((x.toNat : Int) == 34) = false := by simpa using x34
            have Hn34 : Hid (x ≠ 34) := byte_ne x 34 x34' (by decide)
            clear x34
            by_cases xop : ((x.toNat : Int) == 123) = true ∨ ((x.toNat : Int) == 91) = true
            · have Hxo : Hid (x = 123 ∨ x = 91) := by
                rcases xop with h | h
                · exact .inl (byte_eq x 123 h (by decide))
                · exact .inr (byte_eq x 91 h (by decide))
              have hM' : Mach L i F (j + 1) (d + 1) f false false := ⟨by omega, .inr (.inl ⟨rfl, rfl, by omega, (obj_open Hx.out Hxo.out).symm.trans hE⟩)⟩
              have hsp : ((x.toNat : Int) == 123) = true ∨ (((x.toNat : Int) == 123) = false ∧ ((x.toNat : Int) == 91) = true) := by
                by_cases h : ((x.toNat : Int) == 123) = true
                · exact .inl h
                · exact .inr ⟨by simpa using h, xop.resolve_left h⟩
              clear hM hE xop
              rcases hsp with x123 | ⟨x123, x91⟩
              · go_wp2_with fail
                go_round
                case rel => exact ⟨j + 1, d + 1, f, false, false, by omega, by omega, by omega, by go_num, rfl, rfl, by go_num, hM'⟩
                case measure => simp [intOf]; omega
              · go_wp2_with fail
                go_round
                case rel => exact ⟨j + 1, d + 1, f, false, false, by omega, by omega, by omega, by go_num, rfl, rfl, by go_num, hM'⟩
                case measure => simp [intOf]; omega
            · have x123 : ((x.toNat : Int) == 123) = false := by simpa using fun h => xop (.inl h)
              have x91 : ((x.toNat : Int) == 91) = false := by simpa using fun h => xop (.inr h)
              have Hno : Hid (¬ (x = 123 ∨ x = 91)) := by
                intro h
                rcases h with h | h
                · exact byte_ne x 123 x123 (by decide) h
                · exact byte_ne x 91 x91 (by decide) h
              clear xop
              by_cases xcl : ((x.toNat : Int) == 125) = true ∨ ((x.toNat : Int) == 93) = true
              · have Hcl : Hid (x = 125 ∨ x = 93) := by
                  rcases xcl with h | h
                  · exact .inl (byte_eq x 125 h (by decide))
                  · exact .inr (byte_eq x 93 h (by decide))
                have hsp : ((x.toNat : Int) == 125) = true ∨ (((x.toNat : Int) == 125) = false ∧ ((x.toNat : Int) == 93) = true) := by
                  by_cases h : ((x.toNat : Int) == 125) = true
                  · exact .inl h
                  · exact .inr ⟨by simpa using h, xcl.resolve_left h⟩
                clear xcl
                by_cases hd1 : d = 1
                · subst hd1
                  have Hfin : Hid (j + 1 = i + vs F (L.drop i)) := (obj_close1 Hx.out Hcl.out).symm.trans hE
                  clear hM hE
                  rcases hsp with x125 | ⟨x125, x93⟩
                  · go_wp2_with fail
                    go_ret
                    exact ⟨ret_int (by have := Hfin.out; omega), rfl⟩
                  · go_wp2_with fail
                    go_ret
                    exact ⟨ret_int (by have := Hfin.out; omega), rfl⟩
                · have hM' : Mach L i F (j + 1) (d - 1) f false false := ⟨by omega, .inr (.inl ⟨rfl, rfl, by omega, (obj_close Hx.out Hcl.out hd1).symm.trans hE⟩)⟩
                  clear hM hE
                  rcases hsp with x125 | ⟨x125, x93⟩
                  · go_wp2_with fail
                    go_round
                    case rel => exact ⟨j + 1, d - 1, f, false, false, by omega, by omega, by omega, by go_num, rfl, rfl, by go_num, hM'⟩
                    case measure => simp [intOf]; omega
                  · go_wp2_with fail
                    go_round
                    case rel => exact ⟨j + 1, d - 1, f, false, false, by omega, by omega, by omega, by go_num, rfl, rfl, by go_num, hM'⟩
                    case measure => simp [intOf]; omega
              · have x125 : ((x.toNat : Int) == 125) = false := by simpa using fun h => xcl (.inl h)
                have x93 : ((x.toNat : Int) == 93) = false := by simpa using fun h => xcl (.inr h)
                have Hncl : Hid (¬ (x = 125 ∨ x = 93)) := by
                  intro h
                  rcases h with h | h
                  · exact byte_ne x 125 x125 (by decide) h
                  · exact byte_ne x 93 x93 (by decide) h
                have hM' : Mach L i F (j + 1) d f false false := ⟨by omega, .inr (.inl ⟨rfl, rfl, hd, (obj_else Hx.out Hn34.out Hno.out Hncl.out).symm.trans hE⟩)⟩
                clear hM hE xcl
                go_wp2_with fail
                go_round
                case rel => exact ⟨j + 1, d, f, false, false, by omega, by omega, by omega, by go_num, rfl, rfl, by go_num, hM'⟩
                case measure => simp [intOf]; omega
        · cases e with
          | true =>
            have hM' : Mach L i F (j + 1) d f true false := ⟨by omega, .inr (.inr ⟨rfl, (ins_esc Hx.out).symm.trans hE⟩)⟩
            clear hM hE
            go_wp2_with fail
            go_round
            case rel => exact ⟨j + 1, d, f, true, false, by omega, by omega, by omega, by go_num, rfl, rfl, by go_num, hM'⟩
            case measure => simp [intOf]; omega
          | false =>
            by_cases x92 : ((x.toNat : Int) == 92) = true
            · have hM' : Mach L i F (j + 1) d f true true := ⟨by omega, .inr (.inr ⟨rfl, (ins_bs (at_is Hx 92 x92 (by decide))).symm.trans hE⟩)⟩
              clear hM hE
              go_wp2_with fail
              go_round
              case rel => exact ⟨j + 1, d, f, true, true, by omega, by omega, by omega, by go_num, rfl, rfl, by go_num, hM'⟩
              case measure => simp [intOf]; omega
            · have x92' : ((x.toNat : Int) == 92) = false := by simpa using x92
              clear x92
              by_cases x34 : ((x.toNat : Int) == 34) = true
              · by_cases hd : d = 0
                · subst hd
                  have Hfin : Hid (j + 1 = i + vs F (L.drop i)) := (ins_quote0 (at_is Hx 34 x34 (by decide))).symm.trans hE
                  clear hM hE
                  go_wp2_with fail
                  go_ret
                  exact ⟨ret_int (by have := Hfin.out; omega), rfl⟩
                · have hM' : Mach L i F (j + 1) d f false false := ⟨by omega, .inr (.inl ⟨rfl, rfl, hd, (ins_quote (at_is Hx 34 x34 (by decide)) hd).symm.trans hE⟩)⟩
                  clear hM hE
                  go_wp2_with fail
                  go_round
                  case rel => exact ⟨j + 1, d, f, false, false, by omega, by omega, by omega, by go_num, rfl, rfl, by go_num, hM'⟩
                  case measure => simp [intOf]; omega
              · have x34' : ((x.toNat : Int) == 34) = false := by simpa using x34
                have hM' : Mach L i F (j + 1) d f true false := ⟨by omega, .inr (.inr ⟨rfl, (ins_else Hx.out (byte_ne x 92 x92' (by decide)) (byte_ne x 34 x34' (by decide))).symm.trans hE⟩)⟩
                clear hM hE x34
                go_wp2_with fail
                go_round
                case rel => exact ⟨j + 1, d, f, true, false, by omega, by omega, by omega, by go_num, rfl, rfl, by go_num, hM'⟩
                case measure => simp [intOf]; omega
      · have Hfin : Hid (j = i + vs F (L.drop i)) := hM.fin hi (by omega)
        clear hM
        go_wp2_with fail
        go_ret
        exact ⟨ret_int (by have := Hfin.out; omega), rfl⟩

/-- The model at every place of a text. -/
theorem vm_n (b o cap : Nat) (L : List UInt8) (i F : Nat) (w : World) (hL : L.length ≤ 2000000) (hi : i ≤ L.length) (hF : L.length < F) (ht : Txt w b o L) (r : Nat) (hr : Hid (i + vs F (L.drop i) = r)) :
    Calls Try.prog 17 #[.slice (some ⟨b, o, none⟩) L.length cap, .int .i64 (i : Int)] w fun e w' => e = .returned (.int .i64 (r : Int)) ∧ w' = w := by
  by_cases h : i < L.length
  · rw [← hr.out]
    have hc : L[i]? = some L[i] := List.getElem?_eq_getElem h
    by_cases hop : L[i] = 34 ∨ L[i] = 123 ∨ L[i] = 91
    · exact vm_mach b o cap L i F L[i] w hL h hF ht hc hop
    · exact vm_bare b o cap L i F L[i] w hL h ht hc (fun e => hop (.inl e)) (fun e => hop (.inr e))
  · have e : i = L.length := by omega
    have h2 := hr.out
    rw [vs_end F L i (by omega)] at h2
    subst e
    rw [show r = L.length from by omega]
    exact vm_end _ _ _ _

theorem bytes15_yes (a : Option Addr) (n cap : Nat) (i : Int) (w : World) (h : n ≤ 1048576) :
    Calls Try.prog 15 #[.slice a n cap, .int .i64 i] w fun e w' => e = .returned (.bool true) ∧ w' = w := by
  go_enter Try.func15, Try.ntmps15
  go_wp2
  go_ret
  exact ⟨rfl, rfl⟩
theorem bytes15_no (a : Option Addr) (n cap : Nat) (i : Int) (w : World) (h : 1048576 < n) :
    Calls Try.prog 15 #[.slice a n cap, .int .i64 i] w fun e w' => e = .returned (.bool false) ∧ w' = w := by
  go_enter Try.func15, Try.ntmps15
  go_wp2
  go_ret
  exact ⟨rfl, rfl⟩

set_option maxHeartbeats 1000000 in
theorem top6_out (a : Option Addr) (n cap : Nat) (i : Int) (w : World) (h : 1048576 < n ∨ i < 0 ∨ (n : Int) < i) :
    Calls Try.prog 6 #[.slice a n cap, .int .i64 i] w fun e w' => e = .returned (.bool true) ∧ w' = w := by
  by_cases h1 : 1048576 < n
  · go_enter Try.func6, Try.ntmps6
    go_wp2_with fail
    refine (bytes15_no a n cap i _ h1).mono ?_
    rintro e w1 ⟨rfl, rfl⟩
    go_wp2_with fail
    go_ret
    exact ⟨rfl, rfl⟩
  · by_cases h2 : i < 0
    · go_enter Try.func6, Try.ntmps6
      go_wp2_with fail
      refine (bytes15_yes a n cap i _ (by omega)).mono ?_
      rintro e w1 ⟨rfl, rfl⟩
      go_wp2_with fail
      go_ret
      exact ⟨rfl, rfl⟩
    · have h3 : (n : Int) < i := by omega
      clear h
      go_enter Try.func6, Try.ntmps6
      go_wp2_with fail
      refine (bytes15_yes a n cap i _ (by omega)).mono ?_
      rintro e w1 ⟨rfl, rfl⟩
      go_wp2_with fail
      go_ret
      exact ⟨rfl, rfl⟩

set_option maxHeartbeats 1000000 in
/-- nil, at 0. -/
theorem top6_nil (w : World) : Calls Try.prog 6 #[.slice none 0 0, .int .i64 0] w fun e w' => e = .returned (.bool true) ∧ w' = w := by
  go_enter Try.func6, Try.ntmps6
  go_wp2_with fail
  refine (bytes15_yes none 0 0 0 _ (by omega)).mono ?_
  rintro e w1 ⟨rfl, rfl⟩
  go_wp2_with fail
  refine (clone_nil _).mono ?_
  rintro e w1 ⟨rfl, rfl⟩
  go_wp2_with fail
  refine (zve_zero _ _ _).mono ?_
  rintro e w1 ⟨rfl, rfl⟩
  go_wp2_with fail
  refine (vm_end none 0 0 _).mono ?_
  rintro e w1 ⟨rfl, rfl⟩
  go_wp2_with fail
  go_ret
  exact ⟨rfl, rfl⟩

set_option maxHeartbeats 1000000 in
theorem top6_in (x : Addr) (cap : Nat) (L : List UInt8) (i : Nat) (w : World) (hL : L.length ≤ 1048576) (hi : i ≤ L.length) (hx : 0 < L.length → ∃ b off, x = ⟨b, off, none⟩ ∧ b < w.heap.size ∧ Txt w b off L) :
    Calls Try.prog 6 #[.slice (some x) L.length cap, .int .i64 (i : Int)] w fun e w' => e = .returned (.bool true) ∧ Below w.heap.size w w' := by
  generalize hR : i + vs (L.length + 1) (L.drop i) = R
  have H1 : Hid ((i : Int).toNat + vs (L.length + 1) (L.drop (i : Int).toNat) = R) := by show _ = _; rw [Int.toNat_natCast, hR]
  have H2 : Hid (i + vs (L.length + 1) (L.drop i) = R) := hR
  have Hx : Hid _ := hx
  clear hR hx
  go_enter Try.func6, Try.ntmps6
  go_wp2_with fail
  refine (bytes15_yes _ _ _ _ _ hL).mono ?_
  rintro e w1 ⟨rfl, hw⟩; cases hw.symm
  go_wp2_with fail
  refine (clone_any x cap L _ hL Hx.out).mono ?_
  rintro e w1 ⟨rfl, hown, hbel⟩
  go_wp2_with fail
  refine (zve_n w.heap.size 0 L.length L.length L rfl _ _ _ (by omega) (Nat.le_refl _) (by omega) (by omega) (by omega) (Nat.lt_succ_self _) hown.txt _ H1).mono ?_
  rintro e w2 ⟨rfl, hw⟩; cases hw.symm
  go_wp2_with fail
  refine (vm_n w.heap.size 0 L.length L i (L.length + 1) _ (by omega) hi (Nat.lt_succ_self _) hown.txt _ H2).mono ?_
  rintro e w2 ⟨rfl, hw⟩; cases hw.symm
  go_wp2_with fail
  go_ret
  exact ⟨ret_bool (by simp), hbel⟩
end Go.Proofs.Qxb6601478a.Js
