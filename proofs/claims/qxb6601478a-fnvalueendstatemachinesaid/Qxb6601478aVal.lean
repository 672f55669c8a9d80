import Derived.Test.Qxb6601478aStable
import Derived.Test.Qxb6601478aVPlain
/-
  THE WALK of valueEnd.
-/
namespace Go.Proofs.Qxb6601478a.Js
open Go.RowKit

/-- strings.IndexByte among the separators. -/
theorem sep_any (c : UInt8) (w : World) (r : Int) (hr : Hid (sepIx c = r)) :
    Calls Try.prog 25 #[.string ⟨#[44, 125, 93, 32, 9, 13, 10]⟩, .int .u8 (c.toNat : Int)] w fun e w' => e = .returned (.int .i64 r) ∧ w' = w := by
  have h := Try.strings_IndexByte ⟨#[44, 125, 93, 32, 9, 13, 10]⟩ (c.toNat : Int) w
  have e : ((c.toNat : Int).toNat.toUInt8) = c := by rw [Int.toNat_natCast]; exact UInt8.ofNat_toNat
  rw [e] at h
  rw [show Lib.indexByte (⟨#[44, 125, 93, 32, 9, 13, 10]⟩ : ByteArray).data.toList c = sepIx c from rfl, hr.out] at h
  exact h

/-- stringEnd, its answer named. -/
theorem se_n (b o cap : Nat) (L : List UInt8) (i : Nat) (w : World) (hL : L.length ≤ 2000000) (hcap : L.length ≤ cap) (hcap2 : cap ≤ 2000000) (hi : L[i]? = some 34) (ht : Txt w b o L) (r : Nat) (hr : Hid (i + 1 + fwd (L.drop (i + 1)) = r)) :
    Calls Try.prog 20 #[.slice (some ⟨b, o, none⟩) L.length cap, .int .i64 (i : Int)] w fun e w' => e = .returned (.int .i64 (r : Int)) ∧ w' = w := by
  have := se_any b o cap L (i : Int) w hL hcap hcap2 (by omega) (by rw [Int.toNat_natCast]; exact hi) ht
  rw [Int.toNat_natCast] at this
  rw [show (r : Int) = (i : Int) + 1 + (fwd (L.drop (i + 1)) : Int) from by have := hr.out; omega]
  exact this

set_option maxHeartbeats 400000 in
/-- valueEnd at the text's end. -/
theorem ve_end (a : Option Addr) (n cap : Nat) (w : World) (_hn : n ≤ 2000000) :
    Calls Try.prog 21 #[.slice a n cap, .int .i64 (n : Int)] w fun e w' => e = .returned (.int .i64 (n : Int)) ∧ w' = w := by
  have h : ((n : Int) == (n : Int)) = true := by simp
  go_enter Try.func21, Try.ntmps21
  go_wp2_with fail
  go_ret
  exact ⟨rfl, rfl⟩

/-- The loop over an object or array, from the place k on. -/
structure Obj (L : List UInt8) (i F k d f : Nat) : Prop where
  fuel : L.length < k + f
  eq : k + obj f d (L.drop k) = i + vs F (L.drop i)
  start : d = 0 → ∃ c, L[k]? = some c ∧ (c = 123 ∨ c = 91)
theorem Obj.next {L : List UInt8} {i F k d f k' d' : Nat} (h : Obj L i F k d (f + 1)) (e : k + obj (f + 1) d (L.drop k) = k' + obj f d' (L.drop k')) (hk : k < k') (hs : d' = 0 → ∃ c, L[k']? = some c ∧ (c = 123 ∨ c = 91)) : Obj L i F k' d' f :=
  ⟨by have := h.fuel; omega, e.symm.trans h.eq, hs⟩
theorem Obj.cur {L : List UInt8} {i F k d f : Nat} {c : UInt8} (h : Obj L i F k d f) (hc : L[k]? = some c) (hn : ¬ (c = 123 ∨ c = 91)) : d ≠ 0 := by
  intro e
  obtain ⟨c', h1, h2⟩ := h.start e
  rw [hc] at h1
  cases h1
  exact hn h2
theorem Obj.str {L : List UInt8} {i F k d f : Nat} (h : Obj L i F k d f) (hc : L[k]? = some 34) : d ≠ 0 := h.cur hc (by decide)

set_option maxHeartbeats 4000000 in
set_option maxRecDepth 100000 in
theorem ve_obj (b o cap : Nat) (L : List UInt8) (i F : Nat) (c : UInt8) (w : World) (hL : L.length ≤ 2000000) (hcap : L.length ≤ cap) (hcap2 : cap ≤ 2000000) (hi : i < L.length) (ht : Txt w b o L)
    (hne : ((i : Int) == (L.length : Int)) = false) (hcell : w.cell? ⟨b, o + i, none⟩ = some (.int .u8 (c.toNat : Int))) (h34 : ((c.toNat : Int) == 34) = false)
    (hop : ((c.toNat : Int) == 123) = true ∨ (((c.toNat : Int) == 123) = false ∧ ((c.toNat : Int) == 91) = true)) (hO : Obj L i F i 0 F) :
    Calls Try.prog 21 #[.slice (some ⟨b, o, none⟩) L.length cap, .int .i64 (i : Int)] w fun e w' => e = .returned (.int .i64 ((i + vs F (L.drop i) : Nat) : Int)) ∧ w' = w := by
  rcases hop with c123 | ⟨c123, c91⟩
  · go_enter Try.func21, Try.ntmps21
    go_wp2_with fail
    go_loop [1, 5] (fun kv dv => ∃ k d f : Nat, i ≤ k ∧ k ≤ L.length ∧ d ≤ k ∧ kv = .int .i64 k ∧ dv = .int .i64 d ∧ Obj L i F k d f) (fun kv _ => L.length - (intOf kv).toNat)
    case atStart => exact ⟨i, 0, F, Nat.le_refl _, by omega, by omega, rfl, rfl, hO⟩
    case round =>
      clear hcell hO
      obtain ⟨k, d, f, hk1, hk2, hdk, rfl, rfl, hO⟩ := hrel
      by_cases hlt : k < L.length
      · obtain ⟨f, rfl⟩ : ∃ f', f = f' + 1 := ⟨f - 1, by have := hO.fuel; omega⟩
        obtain ⟨e, he⟩ : ∃ e, L[k]? = some e := ⟨L[k], List.getElem?_eq_getElem hlt⟩
        have hcell := ht _ _ he
        have He : Hid (L[k]? = some e) := he
        clear he
        by_cases e34 : ((e.toNat : Int) == 34) = true
        · have Hq : Hid (L[k]? = some 34) := at_is He 34 e34 (by decide)
          have hle := fwd_at_le L (k + 1) (by omega)
          have hd0 : d ≠ 0 := hO.str Hq.out
          have hO' : Obj L i F (k + 1 + fwd (L.drop (k + 1))) d f := hO.next (obj_str Hq.out) (by omega) (fun h => absurd h hd0)
          generalize hR : k + 1 + fwd (L.drop (k + 1)) = R at hO' hle
          have HR : Hid (k + 1 + fwd (L.drop (k + 1)) = R) := hR
          have hRk : k < R := by omega
          clear hR
          go_wp2_with fail
          refine (se_n b o cap L k _ hL hcap hcap2 Hq.out ht R HR).mono ?_
          rintro e w1 ⟨rfl, rfl⟩
          go_wp2_with fail
          go_round
          case rel => exact ⟨R, d, f, by omega, by omega, by omega, rfl, rfl, hO'⟩
          case measure => simp [intOf]; omega
        · have e34' : ((e.toNat : Int) == 34) = false := by simpa using e34
          have Hn : Hid (e ≠ 34) := byte_ne e 34 e34' (by decide)
          clear e34
          by_cases eop : ((e.toNat : Int) == 123) = true ∨ ((e.toNat : Int) == 91) = true
          · have Heop : Hid (e = 123 ∨ e = 91) := by
              rcases eop with h | h
              · exact .inl (byte_eq e 123 h (by decide))
              · exact .inr (byte_eq e 91 h (by decide))
            have hO' : Obj L i F (k + 1) (d + 1) f := hO.next (obj_open He.out Heop.out) (by omega) (fun h => by omega)
            by_cases e123 : ((e.toNat : Int) == 123) = true
            · clear eop
              go_wp2_with fail
              go_round
              case rel => exact ⟨k + 1, d + 1, f, by omega, by omega, by omega, by go_num, by go_num, hO'⟩
              case measure => simp [intOf]; omega
            · have e123' : ((e.toNat : Int) == 123) = false := by simpa using e123
              have e91 : ((e.toNat : Int) == 91) = true := by rcases eop with h | h; · exact absurd h e123
                                                              · exact h
              clear eop e123
              go_wp2_with fail
              go_round
              case rel => exact ⟨k + 1, d + 1, f, by omega, by omega, by omega, by go_num, by go_num, hO'⟩
              case measure => simp [intOf]; omega
          · have e123 : ((e.toNat : Int) == 123) = false := by simpa using fun h => eop (.inl h)
            have e91 : ((e.toNat : Int) == 91) = false := by simpa using fun h => eop (.inr h)
            have Hno : Hid (¬ (e = 123 ∨ e = 91)) := by
              intro h
              rcases h with h | h
              · exact byte_ne e 123 e123 (by decide) h
              · exact byte_ne e 91 e91 (by decide) h
            have hd0 : d ≠ 0 := hO.cur He.out Hno.out
            clear eop
            by_cases ecl : ((e.toNat : Int) == 125) = true ∨ ((e.toNat : Int) == 93) = true
            · have Hcl : Hid (e = 125 ∨ e = 93) := by
                rcases ecl with h | h
                · exact .inl (byte_eq e 125 h (by decide))
                · exact .inr (byte_eq e 93 h (by decide))
              have hsplit : ((e.toNat : Int) == 125) = true ∨ (((e.toNat : Int) == 125) = false ∧ ((e.toNat : Int) == 93) = true) := by
                by_cases h : ((e.toNat : Int) == 125) = true
                · exact .inl h
                · exact .inr ⟨by simpa using h, by rcases ecl with g | g; · exact absurd g h
                                                   · exact g⟩
              clear ecl
              by_cases hd1 : d = 1
              · subst hd1
                have Hfin : Hid (k + 1 = i + vs F (L.drop i)) := (obj_close1 He.out Hcl.out).symm.trans hO.eq
                rcases hsplit with e125 | ⟨e125, e93⟩
                · go_wp2_with fail
                  go_ret
                  exact ⟨ret_int (by have := Hfin.out; omega), rfl⟩
                · go_wp2_with fail
                  go_ret
                  exact ⟨ret_int (by have := Hfin.out; omega), rfl⟩
              · have hO' : Obj L i F (k + 1) (d - 1) f := hO.next (obj_close He.out Hcl.out hd1) (by omega) (fun h => by omega)
                rcases hsplit with e125 | ⟨e125, e93⟩
                · go_wp2_with fail
                  go_round
                  case rel => exact ⟨k + 1, d - 1, f, by omega, by omega, by omega, by go_num, by go_num, hO'⟩
                  case measure => simp [intOf]; omega
                · go_wp2_with fail
                  go_round
                  case rel => exact ⟨k + 1, d - 1, f, by omega, by omega, by omega, by go_num, by go_num, hO'⟩
                  case measure => simp [intOf]; omega
            · have e125 : ((e.toNat : Int) == 125) = false := by simpa using fun h => ecl (.inl h)
              have e93 : ((e.toNat : Int) == 93) = false := by simpa using fun h => ecl (.inr h)
              have Hncl : Hid (¬ (e = 125 ∨ e = 93)) := by
                intro h
                rcases h with h | h
                · exact byte_ne e 125 e125 (by decide) h
                · exact byte_ne e 93 e93 (by decide) h
              have hO' : Obj L i F (k + 1) d f := hO.next (obj_else He.out Hn.out Hno.out Hncl.out) (by omega) (fun h => absurd h hd0)
              clear ecl
              go_wp2_with fail
              go_round
              case rel => exact ⟨k + 1, d, f, by omega, by omega, by omega, by go_num, rfl, hO'⟩
              case measure => simp [intOf]; omega
      · have Hfin : Hid (k = i + vs F (L.drop i)) := by
          have h1 := obj_end f d L k (by omega)
          have h2 := hO.eq
          show k = _
          omega
        go_wp2_with fail
        go_ret
        exact ⟨ret_int (by have := Hfin.out; omega), rfl⟩
  · go_enter Try.func21, Try.ntmps21
    go_wp2_with fail
    go_loop [1, 5] (fun kv dv => ∃ k d f : Nat, i ≤ k ∧ k ≤ L.length ∧ d ≤ k ∧ kv = .int .i64 k ∧ dv = .int .i64 d ∧ Obj L i F k d f) (fun kv _ => L.length - (intOf kv).toNat)
    case atStart => exact ⟨i, 0, F, Nat.le_refl _, by omega, by omega, rfl, rfl, hO⟩
    case round =>
      clear hcell hO
      obtain ⟨k, d, f, hk1, hk2, hdk, rfl, rfl, hO⟩ := hrel
      by_cases hlt : k < L.length
      · obtain ⟨f, rfl⟩ : ∃ f', f = f' + 1 := ⟨f - 1, by have := hO.fuel; omega⟩
        obtain ⟨e, he⟩ : ∃ e, L[k]? = some e := ⟨L[k], List.getElem?_eq_getElem hlt⟩
        have hcell := ht _ _ he
        have He : Hid (L[k]? = some e) := he
        clear he
        by_cases e34 : ((e.toNat : Int) == 34) = true
        · have Hq : Hid (L[k]? = some 34) := at_is He 34 e34 (by decide)
          have hle := fwd_at_le L (k + 1) (by omega)
          have hd0 : d ≠ 0 := hO.str Hq.out
          have hO' : Obj L i F (k + 1 + fwd (L.drop (k + 1))) d f := hO.next (obj_str Hq.out) (by omega) (fun h => absurd h hd0)
          generalize hR : k + 1 + fwd (L.drop (k + 1)) = R at hO' hle
          have HR : Hid (k + 1 + fwd (L.drop (k + 1)) = R) := hR
          have hRk : k < R := by omega
          clear hR
          go_wp2_with fail
          refine (se_n b o cap L k _ hL hcap hcap2 Hq.out ht R HR).mono ?_
          rintro e w1 ⟨rfl, rfl⟩
          go_wp2_with fail
          go_round
          case rel => exact ⟨R, d, f, by omega, by omega, by omega, rfl, rfl, hO'⟩
          case measure => simp [intOf]; omega
        · have e34' : ((e.toNat : Int) == 34) = false := by simpa using e34
          have Hn : Hid (e ≠ 34) := byte_ne e 34 e34' (by decide)
          clear e34
          by_cases eop : ((e.toNat : Int) == 123) = true ∨ ((e.toNat : Int) == 91) = true
          · have Heop : Hid (e = 123 ∨ e = 91) := by
              rcases eop with h | h
              · exact .inl (byte_eq e 123 h (by decide))
              · exact .inr (byte_eq e 91 h (by decide))
            have hO' : Obj L i F (k + 1) (d + 1) f := hO.next (obj_open He.out Heop.out) (by omega) (fun h => by omega)
            by_cases e123 : ((e.toNat : Int) == 123) = true
            · clear eop
              go_wp2_with fail
              go_round
              case rel => exact ⟨k + 1, d + 1, f, by omega, by omega, by omega, by go_num, by go_num, hO'⟩
              case measure => simp [intOf]; omega
            · have e123' : ((e.toNat : Int) == 123) = false := by simpa using e123
              have e91 : ((e.toNat : Int) == 91) = true := by rcases eop with h | h; · exact absurd h e123
                                                              · exact h
              clear eop e123
              go_wp2_with fail
              go_round
              case rel => exact ⟨k + 1, d + 1, f, by omega, by omega, by omega, by go_num, by go_num, hO'⟩
              case measure => simp [intOf]; omega
          · have e123 : ((e.toNat : Int) == 123) = false := by simpa using fun h => eop (.inl h)
            have e91 : ((e.toNat : Int) == 91) = false := by simpa using fun h => eop (.inr h)
            have Hno : Hid (¬ (e = 123 ∨ e = 91)) := by
              intro h
              rcases h with h | h
              · exact byte_ne e 123 e123 (by decide) h
              · exact byte_ne e 91 e91 (by decide) h
            have hd0 : d ≠ 0 := hO.cur He.out Hno.out
            clear eop
            by_cases ecl : ((e.toNat : Int) == 125) = true ∨ ((e.toNat : Int) == 93) = true
            · have Hcl : Hid (e = 125 ∨ e = 93) := by
                rcases ecl with h | h
                · exact .inl (byte_eq e 125 h (by decide))
                · exact .inr (byte_eq e 93 h (by decide))
              have hsplit : ((e.toNat : Int) == 125) = true ∨ (((e.toNat : Int) == 125) = false ∧ ((e.toNat : Int) == 93) = true) := by
                by_cases h : ((e.toNat : Int) == 125) = true
                · exact .inl h
                · exact .inr ⟨by simpa using h, by rcases ecl with g | g; · exact absurd g h
                                                   · exact g⟩
              clear ecl
              by_cases hd1 : d = 1
              · subst hd1
                have Hfin : Hid (k + 1 = i + vs F (L.drop i)) := (obj_close1 He.out Hcl.out).symm.trans hO.eq
                rcases hsplit with e125 | ⟨e125, e93⟩
                · go_wp2_with fail
                  go_ret
                  exact ⟨ret_int (by have := Hfin.out; omega), rfl⟩
                · go_wp2_with fail
                  go_ret
                  exact ⟨ret_int (by have := Hfin.out; omega), rfl⟩
              · have hO' : Obj L i F (k + 1) (d - 1) f := hO.next (obj_close He.out Hcl.out hd1) (by omega) (fun h => by omega)
                rcases hsplit with e125 | ⟨e125, e93⟩
                · go_wp2_with fail
                  go_round
                  case rel => exact ⟨k + 1, d - 1, f, by omega, by omega, by omega, by go_num, by go_num, hO'⟩
                  case measure => simp [intOf]; omega
                · go_wp2_with fail
                  go_round
                  case rel => exact ⟨k + 1, d - 1, f, by omega, by omega, by omega, by go_num, by go_num, hO'⟩
                  case measure => simp [intOf]; omega
            · have e125 : ((e.toNat : Int) == 125) = false := by simpa using fun h => ecl (.inl h)
              have e93 : ((e.toNat : Int) == 93) = false := by simpa using fun h => ecl (.inr h)
              have Hncl : Hid (¬ (e = 125 ∨ e = 93)) := by
                intro h
                rcases h with h | h
                · exact byte_ne e 125 e125 (by decide) h
                · exact byte_ne e 93 e93 (by decide) h
              have hO' : Obj L i F (k + 1) d f := hO.next (obj_else He.out Hn.out Hno.out Hncl.out) (by omega) (fun h => absurd h hd0)
              clear ecl
              go_wp2_with fail
              go_round
              case rel => exact ⟨k + 1, d, f, by omega, by omega, by omega, by go_num, rfl, hO'⟩
              case measure => simp [intOf]; omega
      · have Hfin : Hid (k = i + vs F (L.drop i)) := by
          have h1 := obj_end f d L k (by omega)
          have h2 := hO.eq
          show k = _
          omega
        go_wp2_with fail
        go_ret
        exact ⟨ret_int (by have := Hfin.out; omega), rfl⟩

set_option maxHeartbeats 4000000 in
set_option maxRecDepth 100000 in
theorem ve_in (b o cap : Nat) (L : List UInt8) (i F : Nat) (w : World) (hL : L.length ≤ 2000000) (hcap : L.length ≤ cap) (hcap2 : cap ≤ 2000000) (hi : i < L.length) (hF : L.length < F) (ht : Txt w b o L) :
    Calls Try.prog 21 #[.slice (some ⟨b, o, none⟩) L.length cap, .int .i64 (i : Int)] w fun e w' => e = .returned (.int .i64 ((i + vs F (L.drop i) : Nat) : Int)) ∧ w' = w := by
  have hne : ((i : Int) == (L.length : Int)) = false := beq_eq_false_iff_ne.2 (by omega)
  obtain ⟨c, hc⟩ : ∃ c, L[i]? = some c := ⟨L[i], List.getElem?_eq_getElem hi⟩
  have hcell := ht _ _ hc
  have Hc : Hid (L[i]? = some c) := hc
  clear hc
  by_cases h34 : ((c.toNat : Int) == 34) = true
  · have Hq : Hid (L[i]? = some 34) := at_is Hc 34 h34 (by decide)
    have Hfin : Hid (i + 1 + fwd (L.drop (i + 1)) = i + vs F (L.drop i)) := (vs_str Hq.out).symm
    go_enter Try.func21, Try.ntmps21
    go_wp2_with fail
    refine (se_n b o cap L i _ hL hcap hcap2 Hq.out ht _ Hfin).mono ?_
    rintro e w1 ⟨rfl, rfl⟩
    go_wp2_with fail
    go_ret
    exact ⟨rfl, rfl⟩
  · have h34' : ((c.toNat : Int) == 34) = false := by simpa using h34
    have Hn34 : Hid (c ≠ 34) := byte_ne c 34 h34' (by decide)
    clear h34
    by_cases hop : ((c.toNat : Int) == 123) = true ∨ ((c.toNat : Int) == 91) = true
    · have Hop : Hid (c = 123 ∨ c = 91) := by
        rcases hop with h | h
        · exact .inl (byte_eq c 123 h (by decide))
        · exact .inr (byte_eq c 91 h (by decide))
      have hO : Obj L i F i 0 F := ⟨by omega, by rw [vs_obj Hc.out Hop.out], fun _ => ⟨c, Hc.out, Hop.out⟩⟩
      have hsp : ((c.toNat : Int) == 123) = true ∨ (((c.toNat : Int) == 123) = false ∧ ((c.toNat : Int) == 91) = true) := by
        by_cases h : ((c.toNat : Int) == 123) = true
        · exact .inl h
        · exact .inr ⟨by simpa using h, by rcases hop with g | g; · exact absurd g h
                                           · exact g⟩
      clear hop
      rcases hsp with c123 | ⟨c123, c91⟩
      · exact ve_obj b o cap L i F c w hL hcap hcap2 hi ht hne hcell h34' (.inl c123) hO
      · exact ve_obj b o cap L i F c w hL hcap hcap2 hi ht hne hcell h34' (.inr ⟨c123, c91⟩) hO
    · have h123 : ((c.toNat : Int) == 123) = false := by simpa using fun h => hop (.inl h)
      have h91 : ((c.toNat : Int) == 91) = false := by simpa using fun h => hop (.inr h)
      have Hb : Hid (vs F (L.drop i) = bare (L.drop i)) := vs_bare Hc.out Hn34.out (by
        intro h
        rcases h with h | h
        · exact byte_ne c 123 h123 (by decide) h
        · exact byte_ne c 91 h91 (by decide) h)
      clear hop
      go_enter Try.func21, Try.ntmps21
      go_wp2_with fail
      go_loop [1] (fun kv => ∃ k : Nat, i ≤ k ∧ k ≤ L.length ∧ kv = .int .i64 k ∧ Hid (k + bare (L.drop k) = i + vs F (L.drop i))) (fun kv => L.length - (intOf kv).toNat)
      case atStart => exact ⟨i, Nat.le_refl _, by omega, rfl, (by rw [Hb.out]; rfl)⟩
      case round =>
        clear hcell
        obtain ⟨k, hk1, hk2, rfl, hE⟩ := hrel
        by_cases hlt : k < L.length
        · obtain ⟨e, he⟩ : ∃ e, L[k]? = some e := ⟨L[k], List.getElem?_eq_getElem hlt⟩
          have hcell := ht _ _ he
          have He : Hid (L[k]? = some e) := he
          clear he
          by_cases hs : 0 ≤ sepIx e
          · have Hfin : Hid (k = i + vs F (L.drop i)) := by
              have h1 := bare_sep He.out hs
              have h2 := hE.out
              show k = _
              omega
            go_wp2_with fail
            refine (sep_any e _ _ rfl).mono ?_
            rintro e w1 ⟨rfl, rfl⟩
            go_wp2_with fail
            go_ret
            exact ⟨ret_int (by have := Hfin.out; omega), rfl⟩
          · have hs' : sepIx e < 0 := by omega
            have hE' : Hid (k + 1 + bare (L.drop (k + 1)) = i + vs F (L.drop i)) := (bare_else He.out hs').symm.trans hE.out
            clear hs hE
            go_wp2_with fail
            refine (sep_any e _ _ rfl).mono ?_
            rintro e w1 ⟨rfl, rfl⟩
            go_wp2_with fail
            go_round
            case rel => exact ⟨k + 1, by omega, by omega, by go_num, hE'⟩
            case measure => simp [intOf]; omega
        · have Hfin : Hid (k = i + vs F (L.drop i)) := by
            have h1 := bare_end L k (by omega)
            have h2 := hE.out
            show k = _
            omega
          go_wp2_with fail
          go_ret
          exact ⟨ret_int (by have := Hfin.out; omega), rfl⟩
end Go.Proofs.Qxb6601478a.Js
