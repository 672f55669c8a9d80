import Derived.Lib.Bytealg
/-
  PLAIN FUNCTIONS ON LISTS OF BYTES that say what parameterEnd, ansiCEnd, backquotedText answer. No program in sight.
-/
namespace Go.Proofs.Qxb6601225a.Pe

/-- Where in l (the text of a dollar-quote string) its end stands: the first quote that no backslash takes; the length where none does. -/
def ansi : List UInt8 → Nat
  | [] => 0
  | [c] => if c = 39 then 0 else 1
  | c :: e :: u => if c = 39 then 0 else if c = 92 then ansi u + 2 else ansi (e :: u) + 1

/-- How many bytes of l (the text behind a backquote) the substitution takes, its closing backquote counted in. -/
def bq : List UInt8 → Nat
  | [] => 0
  | [_] => 1
  | c :: e :: u => if c = 96 then 1 else if c = 92 ∧ (e = 36 ∨ e = 96 ∨ e = 92) then bq u + 2 else bq (e :: u) + 1

/-- An answer behind m bytes more: -1 stays -1. -/
def sh (m r : Int) : Int := if r < 0 then -1 else m + r

/-- parameterEnd (mode false: at depth d) and its loop between double quotes (mode true: how many bytes that loop passes, -1 where the function ends in it), with fuel. -/
def run : Nat → Bool → Nat → List UInt8 → Int
  | 0, _, _, _ => -1
  | f + 1, false, d, l =>
    match l with
    | [] => -1
    | c :: t =>
      if c = 92 then sh 2 (run f false d (t.drop 1))
      else if [36, 39].isPrefixOf (c :: t) = true then sh (ansi (t.drop 1) + 3) (run f false d ((c :: t).drop (ansi (t.drop 1) + 3)))
      else if c = 39 then
        if Lib.indexByte t 39 < 0 then -1 else sh (Lib.indexByte t 39 + 2) (run f false d ((c :: t).drop ((Lib.indexByte t 39).toNat + 2)))
      else if c = 34 then
        if run f true 0 t < 0 then -1 else sh (run f true 0 t + 2) (run f false d ((c :: t).drop ((run f true 0 t).toNat + 2)))
      else if c = 123 then sh 1 (run f false (d + 1) t)
      else if c = 125 then (if d = 0 then 0 else sh 1 (run f false (d - 1) t))
      else sh 1 (run f false d t)
  | f + 1, true, _, l =>
    match l with
    | [] => 0
    | c :: t =>
      if c = 34 then 0
      else if c = 92 then sh 2 (run f true 0 (t.drop 1))
      else if c = 96 then sh (bq t + 1) (run f true 0 ((c :: t).drop (bq t + 1)))
      else if [36, 40].isPrefixOf (c :: t) = true then -1
      else if [36, 123].isPrefixOf (c :: t) = true then
        if run f false 0 (t.drop 1) < 0 then -1 else sh (run f false 0 (t.drop 1) + 3) (run f true 0 ((c :: t).drop ((run f false 0 (t.drop 1)).toNat + 3)))
      else sh 1 (run f true 0 t)

theorem sh_sh {a b r : Int} (hb : 0 ≤ b) : sh a (sh b r) = sh (a + b) r := by
  unfold sh
  by_cases h : r < 0
  · simp [h]
  · rw [if_neg h, if_neg (by omega), if_neg h]; omega

theorem sh_neg {a : Int} : sh a (-1) = -1 := rfl
theorem sh_nn {a r : Int} (h : 0 ≤ r) : sh a r = a + r := by unfold sh; rw [if_neg (by omega)]
theorem sh_ge {a r : Int} (ha : 0 ≤ a) : -1 ≤ sh a r := by unfold sh; split <;> omega

theorem run_ge (f : Nat) : ∀ (m : Bool) (d : Nat) (l : List UInt8), -1 ≤ run f m d l := by
  induction f with
  | zero => intro m d l; simp [run]
  | succ f ih =>
    intro m d l
    have hix : ∀ t, -1 ≤ Lib.indexByte t 39 := fun t => Lib.indexByte_ge t 39
    cases m with
    | false =>
      cases l with
      | nil => simp [run]
      | cons c t =>
        simp only [run]
        repeat' split
        all_goals first | exact sh_ge (by omega) | (refine sh_ge ?_; have := hix t; omega) | omega
    | true =>
      cases l with
      | nil => simp [run]
      | cons c t =>
        simp only [run]
        repeat' split
        all_goals first | exact sh_ge (by omega) | omega

/-! ### The rounds, told at a place of a text -/

theorem drop_at {L : List UInt8} {k : Nat} {c : UInt8} (h : L[k]? = some c) : L.drop k = c :: L.drop (k + 1) := by
  obtain ⟨hk, rfl⟩ := List.getElem?_eq_some_iff.1 h
  exact List.drop_eq_getElem_cons hk

theorem out_end (f d : Nat) (L : List UInt8) (k : Nat) (h : L.length ≤ k) : run f false d (L.drop k) = -1 := by
  rw [List.drop_eq_nil_of_le h]
  cases f <;> rfl

theorem out_bs {L : List UInt8} {k f d : Nat} (h : L[k]? = some 92) : run (f + 1) false d (L.drop k) = sh 2 (run f false d (L.drop (k + 2))) := by
  rw [drop_at h]; simp only [run, List.drop_drop]; rfl

theorem out_dollar {L : List UInt8} {k f d : Nat} {c : UInt8} (h : L[k]? = some c) (h1 : c ≠ 92) (h2 : [36, 39].isPrefixOf (L.drop k) = true) :
    run (f + 1) false d (L.drop k) = sh (ansi (L.drop (k + 2)) + 3) (run f false d (L.drop (k + 2 + ansi (L.drop (k + 2)) + 1))) := by
  rw [drop_at h] at h2 ⊢
  simp only [run]
  rw [if_neg h1, if_pos h2, List.drop_drop]
  rw [show c :: L.drop (k + 1) = L.drop k from (drop_at h).symm, List.drop_drop]
  rw [show k + (ansi (L.drop (k + 1 + 1)) + 3) = k + 2 + ansi (L.drop (k + 2)) + 1 from by rw [show k + 1 + 1 = k + 2 from rfl]; omega]

theorem out_sq_no {L : List UInt8} {k f d : Nat} (h : L[k]? = some 39) (hn : Lib.indexByte (L.drop (k + 1)) 39 < 0) :
    run (f + 1) false d (L.drop k) = -1 := by
  rw [drop_at h]
  have hp : [36, 39].isPrefixOf (39 :: L.drop (k + 1)) = false := by simp [List.isPrefixOf]
  simp only [run]
  rw [if_neg (by decide), if_neg (by rw [hp]; decide), if_pos trivial, if_pos hn]

theorem out_sq {L : List UInt8} {k f d n : Nat} (h : L[k]? = some 39) (hn : Lib.indexByte (L.drop (k + 1)) 39 = n) :
    run (f + 1) false d (L.drop k) = sh (n + 2) (run f false d (L.drop (k + n + 2))) := by
  rw [drop_at h]
  have hp : [36, 39].isPrefixOf (39 :: L.drop (k + 1)) = false := by simp [List.isPrefixOf]
  simp only [run]
  rw [if_neg (by decide), if_neg (by rw [hp]; decide), if_pos trivial, hn, if_neg (by omega)]
  rw [show (39 :: L.drop (k + 1) : List UInt8) = L.drop k from (drop_at h).symm, List.drop_drop]
  rw [show k + ((n : Int).toNat + 2) = k + n + 2 from by omega]

theorem out_dq_no {L : List UInt8} {k f d : Nat} (h : L[k]? = some 34) (hn : run f true 0 (L.drop (k + 1)) < 0) :
    run (f + 1) false d (L.drop k) = -1 := by
  rw [drop_at h]
  have hp : [36, 39].isPrefixOf (34 :: L.drop (k + 1)) = false := by simp [List.isPrefixOf]
  simp only [run]
  rw [if_neg (by decide), if_neg (by rw [hp]; decide), if_neg (by decide), if_pos trivial, if_pos hn]

theorem out_dq {L : List UInt8} {k f d n : Nat} (h : L[k]? = some 34) (hn : run f true 0 (L.drop (k + 1)) = n) :
    run (f + 1) false d (L.drop k) = sh (n + 2) (run f false d (L.drop (k + n + 2))) := by
  rw [drop_at h]
  have hp : [36, 39].isPrefixOf (34 :: L.drop (k + 1)) = false := by simp [List.isPrefixOf]
  simp only [run]
  rw [if_neg (by decide), if_neg (by rw [hp]; decide), if_neg (by decide), if_pos trivial, hn, if_neg (by omega)]
  rw [show (34 :: L.drop (k + 1) : List UInt8) = L.drop k from (drop_at h).symm, List.drop_drop]
  rw [show k + ((n : Int).toNat + 2) = k + n + 2 from by omega]

theorem out_open {L : List UInt8} {k f d : Nat} (h : L[k]? = some 123) : run (f + 1) false d (L.drop k) = sh 1 (run f false (d + 1) (L.drop (k + 1))) := by
  rw [drop_at h]
  have hp : [36, 39].isPrefixOf (123 :: L.drop (k + 1)) = false := by simp [List.isPrefixOf]
  simp only [run]
  rw [if_neg (by decide), if_neg (by rw [hp]; decide), if_neg (by decide), if_neg (by decide), if_pos trivial]

theorem out_close0 {L : List UInt8} {k f : Nat} (h : L[k]? = some 125) : run (f + 1) false 0 (L.drop k) = 0 := by
  rw [drop_at h]
  have hp : [36, 39].isPrefixOf (125 :: L.drop (k + 1)) = false := by simp [List.isPrefixOf]
  simp only [run]
  rw [if_neg (by decide), if_neg (by rw [hp]; decide), if_neg (by decide), if_neg (by decide), if_neg (by decide), if_pos trivial]; rfl

theorem out_close {L : List UInt8} {k f d : Nat} (h : L[k]? = some 125) (hd : d ≠ 0) : run (f + 1) false d (L.drop k) = sh 1 (run f false (d - 1) (L.drop (k + 1))) := by
  rw [drop_at h]
  have hp : [36, 39].isPrefixOf (125 :: L.drop (k + 1)) = false := by simp [List.isPrefixOf]
  simp only [run]
  rw [if_neg (by decide), if_neg (by rw [hp]; decide), if_neg (by decide), if_neg (by decide), if_neg (by decide), if_pos trivial, if_neg hd]

theorem out_else {L : List UInt8} {k f d : Nat} {c : UInt8} (h : L[k]? = some c) (h1 : c ≠ 92) (h2 : [36, 39].isPrefixOf (L.drop k) = false) (h3 : c ≠ 39) (h4 : c ≠ 34) (h5 : c ≠ 123) (h6 : c ≠ 125) :
    run (f + 1) false d (L.drop k) = sh 1 (run f false d (L.drop (k + 1))) := by
  rw [drop_at h] at h2 ⊢
  simp only [run]
  rw [if_neg h1, if_neg (by rw [h2]; decide), if_neg h3, if_neg h4, if_neg h5, if_neg h6]

theorem in_end (f : Nat) (L : List UInt8) (k : Nat) (h : L.length ≤ k) : run (f + 1) true 0 (L.drop k) = 0 := by
  rw [List.drop_eq_nil_of_le h]; rfl

theorem in_quote {L : List UInt8} {k f : Nat} (h : L[k]? = some 34) : run (f + 1) true 0 (L.drop k) = 0 := by
  rw [drop_at h]; simp [run]

theorem in_bs {L : List UInt8} {k f : Nat} (h : L[k]? = some 92) : run (f + 1) true 0 (L.drop k) = sh 2 (run f true 0 (L.drop (k + 2))) := by
  rw [drop_at h]; simp only [run, List.drop_drop]; rfl

theorem in_bq {L : List UInt8} {k f : Nat} (h : L[k]? = some 96) :
    run (f + 1) true 0 (L.drop k) = sh (bq (L.drop (k + 1)) + 1) (run f true 0 (L.drop (k + bq (L.drop (k + 1)) + 1))) := by
  rw [drop_at h]
  simp only [run]
  rw [if_neg (by decide), if_neg (by decide), if_pos trivial]
  rw [show (96 :: L.drop (k + 1) : List UInt8) = L.drop k from (drop_at h).symm, List.drop_drop]
  rw [show k + (bq (L.drop (k + 1)) + 1) = k + bq (L.drop (k + 1)) + 1 from by omega]

theorem in_paren {L : List UInt8} {k f : Nat} {c : UInt8} (h : L[k]? = some c) (h0 : c ≠ 34) (h1 : c ≠ 92) (h2 : c ≠ 96) (hp : [36, 40].isPrefixOf (L.drop k) = true) :
    run (f + 1) true 0 (L.drop k) = -1 := by
  rw [drop_at h] at hp ⊢
  simp only [run]
  rw [if_neg h0, if_neg h1, if_neg h2, if_pos hp]

theorem in_brace_no {L : List UInt8} {k f : Nat} {c : UInt8} (h : L[k]? = some c) (h0 : c ≠ 34) (h1 : c ≠ 92) (h2 : c ≠ 96) (hp : [36, 40].isPrefixOf (L.drop k) = false) (hq : [36, 123].isPrefixOf (L.drop k) = true)
    (hn : run f false 0 (L.drop (k + 2)) < 0) : run (f + 1) true 0 (L.drop k) = -1 := by
  rw [drop_at h] at hp hq ⊢
  simp only [run]
  rw [if_neg h0, if_neg h1, if_neg h2, if_neg (by rw [hp]; decide), if_pos hq, List.drop_drop, if_pos hn]

theorem in_brace {L : List UInt8} {k f n : Nat} {c : UInt8} (h : L[k]? = some c) (h0 : c ≠ 34) (h1 : c ≠ 92) (h2 : c ≠ 96) (hp : [36, 40].isPrefixOf (L.drop k) = false) (hq : [36, 123].isPrefixOf (L.drop k) = true)
    (hn : run f false 0 (L.drop (k + 2)) = n) : run (f + 1) true 0 (L.drop k) = sh (n + 3) (run f true 0 (L.drop (k + n + 3))) := by
  have hd := drop_at h
  rw [hd] at hp hq ⊢
  simp only [run]
  rw [if_neg h0, if_neg h1, if_neg h2, if_neg (by rw [hp]; decide), if_pos hq, List.drop_drop, show k + 1 + 1 = k + 2 from rfl, hn, if_neg (by omega)]
  rw [← hd, List.drop_drop]
  rw [show k + ((n : Int).toNat + 3) = k + n + 3 from by omega]

theorem in_else {L : List UInt8} {k f : Nat} {c : UInt8} (h : L[k]? = some c) (h0 : c ≠ 34) (h1 : c ≠ 92) (h2 : c ≠ 96) (hp : [36, 40].isPrefixOf (L.drop k) = false) (hq : [36, 123].isPrefixOf (L.drop k) = false) :
    run (f + 1) true 0 (L.drop k) = sh 1 (run f true 0 (L.drop (k + 1))) := by
  rw [drop_at h] at hp hq ⊢
  simp only [run]
  rw [if_neg h0, if_neg h1, if_neg h2, if_neg (by rw [hp]; decide), if_neg (by rw [hq]; decide)]

/-! ### ansi and bq at a place -/

theorem ansi_end (L : List UInt8) (k : Nat) (h : L.length ≤ k) : ansi (L.drop k) = 0 := by rw [List.drop_eq_nil_of_le h]; simp [ansi]
theorem ansi_39 (t : List UInt8) : ansi (39 :: t) = 0 := by cases t <;> simp [ansi]
theorem ansi_ne (c : UInt8) (t : List UInt8) (h1 : c ≠ 39) (h2 : c ≠ 92) : ansi (c :: t) = ansi t + 1 := by cases t <;> simp [ansi, h1, h2]
theorem ansi_quote {L : List UInt8} {k : Nat} (h : L[k]? = some 39) : ansi (L.drop k) = 0 := by rw [drop_at h]; exact ansi_39 _
theorem ansi_bs {L : List UInt8} {k : Nat} (h : L[k]? = some 92) : min (k + 2) L.length + ansi (L.drop (k + 2)) = k + ansi (L.drop k) := by
  have hk : k < L.length := (List.getElem?_eq_some_iff.1 h).1
  rw [drop_at h]
  by_cases h2 : k + 1 < L.length
  · rw [List.drop_eq_getElem_cons h2]
    rw [show ansi (92 :: L[k + 1] :: L.drop (k + 1 + 1)) = ansi (L.drop (k + 2)) + 2 from by simp [ansi]]
    omega
  · rw [List.drop_eq_nil_of_le (by omega : L.length ≤ k + 1), List.drop_eq_nil_of_le (by omega : L.length ≤ k + 2)]
    rw [show ansi [92] = 1 from by simp [ansi], show ansi [] = 0 from by simp [ansi]]
    omega
theorem ansi_else {L : List UInt8} {k : Nat} {c : UInt8} (h : L[k]? = some c) (h1 : c ≠ 39) (h2 : c ≠ 92) : min (k + 1) L.length + ansi (L.drop (k + 1)) = k + ansi (L.drop k) := by
  have hk : k < L.length := (List.getElem?_eq_some_iff.1 h).1
  rw [drop_at h, ansi_ne c _ h1 h2]
  omega

theorem ansi_le (n : Nat) : ∀ (l : List UInt8), l.length ≤ n → ansi l ≤ l.length := by
  induction n with
  | zero => intro l h; cases l with
    | nil => simp [ansi]
    | cons c t => simp at h
  | succ n ih =>
    intro l h
    match l with
    | [] => simp [ansi]
    | [c] => simp only [ansi]; split <;> simp
    | c :: e :: u =>
      simp only [List.length_cons] at h ⊢
      rw [show ansi (c :: e :: u) = if c = 39 then 0 else if c = 92 then ansi u + 2 else ansi (e :: u) + 1 from by simp [ansi]]
      have h1 := ih u (by omega)
      have h2 := ih (e :: u) (by simp; omega)
      simp at h2
      split
      · omega
      · split <;> omega

theorem bq_end (L : List UInt8) (k : Nat) (h : L.length ≤ k) : bq (L.drop k) = 0 := by rw [List.drop_eq_nil_of_le h]; simp [bq]
theorem bq_96 (t : List UInt8) : bq (96 :: t) = 1 := by cases t <;> simp [bq]
theorem bq_ne (c : UInt8) (t : List UInt8) (h1 : c ≠ 96) (h2 : c ≠ 92) : bq (c :: t) = bq t + 1 := by cases t <;> simp [bq, h1, h2]
theorem bq_quote {L : List UInt8} {k : Nat} (h : L[k]? = some 96) : bq (L.drop k) = 1 := by rw [drop_at h]; exact bq_96 _
/-- The escape's own test. -/
def esc (e : UInt8) : Bool := decide (0 ≤ Lib.indexByte [36, 96, 92] e)
theorem esc_iff (e : UInt8) : esc e = true ↔ (e = 36 ∨ e = 96 ∨ e = 92) := by
  unfold esc
  by_cases h1 : e = 36
  · subst h1; decide
  · by_cases h2 : e = 96
    · subst h2; decide
    · by_cases h3 : e = 92
      · subst h3; decide
      · have a1 : ((36 : UInt8) == e) = false := by simpa using fun x => h1 x.symm
        have a2 : ((96 : UInt8) == e) = false := by simpa using fun x => h2 x.symm
        have a3 : ((92 : UInt8) == e) = false := by simpa using fun x => h3 x.symm
        simp [Lib.indexByte, a1, a2, a3, h1, h2, h3]
theorem bq_two (e : UInt8) (u : List UInt8) : bq (92 :: e :: u) = if esc e = true then bq u + 2 else bq (e :: u) + 1 := by
  by_cases h : esc e = true
  · rw [if_pos h]; rw [esc_iff] at h; simp [bq, h]
  · rw [if_neg h]; rw [esc_iff] at h; simp [bq, h]
theorem bq_bs2 {L : List UInt8} {k : Nat} {e : UInt8} (h : L[k]? = some 92) (h2 : L[k + 1]? = some e) (he : esc e = true) : k + 2 + bq (L.drop (k + 2)) = k + bq (L.drop k) := by
  rw [drop_at h, drop_at h2, bq_two, if_pos he, show k + 1 + 1 = k + 2 from rfl]
  omega
theorem bq_bs1 {L : List UInt8} {k : Nat} {e : UInt8} (h : L[k]? = some 92) (h2 : L[k + 1]? = some e) (he : esc e = false) : k + 1 + bq (L.drop (k + 1)) = k + bq (L.drop k) := by
  rw [drop_at h, drop_at h2, bq_two, if_neg (by rw [he]; decide)]
  omega
theorem bq_bs0 {L : List UInt8} {k : Nat} (h : L[k]? = some 92) (h2 : L.length ≤ k + 1) : k + 1 + bq (L.drop (k + 1)) = k + bq (L.drop k) := by
  rw [drop_at h, List.drop_eq_nil_of_le h2]
  simp [bq]
theorem bq_else {L : List UInt8} {k : Nat} {c : UInt8} (h : L[k]? = some c) (h1 : c ≠ 96) (h2 : c ≠ 92) : k + 1 + bq (L.drop (k + 1)) = k + bq (L.drop k) := by
  rw [drop_at h, bq_ne c _ h1 h2]
  omega

theorem bq_le (n : Nat) : ∀ (l : List UInt8), l.length ≤ n → bq l ≤ l.length := by
  induction n with
  | zero => intro l h; cases l with
    | nil => simp [bq]
    | cons c t => simp at h
  | succ n ih =>
    intro l h
    match l with
    | [] => simp [bq]
    | [c] => simp [bq]
    | c :: e :: u =>
      simp only [List.length_cons] at h ⊢
      rw [show bq (c :: e :: u) = if c = 96 then 1 else if c = 92 ∧ (e = 36 ∨ e = 96 ∨ e = 92) then bq u + 2 else bq (e :: u) + 1 from by simp [bq]]
      have h1 := ih u (by omega)
      have h2 := ih (e :: u) (by simp; omega)
      simp at h2
      repeat' split
      all_goals omega

theorem index_lt (l : List UInt8) (c : UInt8) : Lib.indexByte l c < l.length := by
  induction l with
  | nil => simp [Lib.indexByte]
  | cons b l ih =>
    simp only [Lib.indexByte, List.length_cons]
    split
    · omega
    · split <;> omega

theorem sh_lt {l : List UInt8} {r : Int} {j : Nat} {J : Int} (h : r + 1 ≤ (l.drop j).length) (hJ : J ≤ j) : sh J r + 1 ≤ l.length := by
  unfold sh
  rw [List.length_drop] at h
  split <;> omega

theorem run_lt (f : Nat) : ∀ (d : Nat) (l : List UInt8), run f false d l + 1 ≤ l.length := by
  induction f with
  | zero => intro d l; simp [run]
  | succ f ih =>
    intro d l
    cases l with
    | nil => simp [run]
    | cons c t =>
      have ih' : ∀ (d j : Nat), run f false d ((c :: t).drop j) + 1 ≤ ((c :: t).drop j).length := fun d j => ih d _
      simp only [run]
      split
      · exact sh_lt (j := 2) (ih' d 2) (by omega)
      · split
        · exact sh_lt (ih' d _) (by omega)
        · split
          · split
            · simp; omega
            · exact sh_lt (ih' d _) (by omega)
          · split
            · split
              · simp; omega
              · exact sh_lt (ih' d _) (by omega)
            · split
              · exact sh_lt (j := 1) (ih' (d + 1) 1) (by omega)
              · split
                · split
                  · simp; omega
                  · exact sh_lt (j := 1) (ih' (d - 1) 1) (by omega)
                · exact sh_lt (j := 1) (ih' d 1) (by omega)

/-- Is one of the bytes b? -/
def has (b : Int) (l : List UInt8) : Bool := l.any fun c => (c.toNat : Int) == b
theorem has_snoc (b : Int) (l : List UInt8) (c : UInt8) : has b (l ++ [c]) = (has b l || ((c.toNat : Int) == b)) := by simp [has]
theorem has_hit (b : Int) (l : List UInt8) (k : Nat) (c : UInt8) (h : l[k]? = some c) (hc : ((c.toNat : Int) == b) = true) : has b l = true := by
  unfold has
  rw [List.any_eq_true]
  exact ⟨c, List.mem_of_getElem? h, hc⟩
theorem has_no (l : List UInt8) (h : has 39 l = false) : ∀ x ∈ l, x ≠ 39 := by
  unfold has at h
  intro x hx e
  rw [List.any_eq_false] at h
  exact h x hx (by rw [e]; decide)

/-! ### THE PLAIN LAW -/
theorem index_first (q : List UInt8) (t : List UInt8) (h : ∀ x ∈ q, x ≠ 39) : Lib.indexByte (q ++ 39 :: t) 39 = q.length := by
  induction q with
  | nil => simp [Lib.indexByte]
  | cons c q ih =>
    have hc : (c == 39) = false := by simpa using h c (by simp)
    have ih' := ih (fun x hx => h x (by simp [hx]))
    simp only [List.cons_append, Lib.indexByte, hc, ih', List.length_cons]
    rw [if_neg (by decide), if_neg (by simp)]
    omega

theorem law (q s : List UInt8) (b : UInt8) (f : Nat) (h : ∀ x ∈ q, x ≠ 39) :
    run (f + 2) false 0 (39 :: q ++ 39 :: 92 :: b :: s) = sh (q.length + 4) (run f false 0 s) := by
  have e1 := out_sq (L := 39 :: (q ++ 39 :: 92 :: b :: s)) (k := 0) (f := f + 1) (d := 0) (n := q.length) rfl (by simpa using index_first q (92 :: b :: s) h)
  simp only [List.drop_zero] at e1
  rw [List.cons_append, e1]
  have e2 : (39 :: (q ++ 39 :: 92 :: b :: s)).drop (0 + q.length + 2) = 92 :: b :: s := by
    rw [show 0 + q.length + 2 = (q.length + 1) + 1 from by omega, List.drop_succ_cons, ← List.drop_drop, List.drop_left]; rfl
  rw [e2]
  have e3 := out_bs (L := 92 :: b :: s) (k := 0) (f := f) (d := 0) rfl
  simp only [List.drop_zero] at e3
  rw [e3, sh_sh (by omega)]
  simp only [List.drop_succ_cons, List.drop_zero, Nat.zero_add]
  rw [show (q.length : Int) + 2 + 2 = q.length + 4 from by omega]

end Go.Proofs.Qxb6601225a.Pe
