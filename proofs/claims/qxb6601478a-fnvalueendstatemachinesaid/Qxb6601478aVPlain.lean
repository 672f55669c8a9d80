import Derived.Test.Qxb6601478aPlain
/-
  PLAIN FUNCTIONS ON LISTS OF BYTES that say what valueEnd answers.
-/
namespace Go.Proofs.Qxb6601478a.Js

/-- Where the byte stands among the separators. -/
def sepIx (c : UInt8) : Int := Lib.indexByte [44, 125, 93, 32, 9, 13, 10] c
/-- A bare number or literal. -/
def bare : List UInt8 → Nat
  | [] => 0
  | c :: t => if 0 ≤ sepIx c then 0 else bare t + 1

/-- The loop over an object or array: at depth d, how many bytes it still takes; with fuel. -/
def obj : Nat → Nat → List UInt8 → Nat
  | 0, _, _ => 0
  | _ + 1, _, [] => 0
  | f + 1, d, c :: t =>
    if c = 34 then fwd t + 1 + obj f d (t.drop (fwd t))
    else if c = 123 ∨ c = 91 then obj f (d + 1) t + 1
    else if c = 125 ∨ c = 93 then (if d = 1 then 1 else obj f (d - 1) t + 1)
    else obj f d t + 1

/-- A value: how many bytes it takes. -/
def vs (F : Nat) : List UInt8 → Nat
  | [] => 0
  | c :: t => if c = 34 then fwd t + 1 else if c = 123 ∨ c = 91 then obj F 0 (c :: t) else bare (c :: t)

theorem bare_le (l : List UInt8) : bare l ≤ l.length := by
  induction l with
  | nil => simp [bare]
  | cons c t ih => simp only [bare, List.length_cons]; split <;> omega
theorem obj_le (f : Nat) : ∀ (d : Nat) (l : List UInt8), obj f d l ≤ l.length := by
  induction f with
  | zero => intro d l; simp [obj]
  | succ f ih =>
    intro d l
    cases l with
    | nil => simp [obj]
    | cons c t =>
      simp only [obj, List.length_cons]
      have h1 := fwd_length t
      have h2 := ih d (t.drop (fwd t))
      rw [List.length_drop] at h2
      have h3 := ih (d + 1) t
      have h4 := ih (d - 1) t
      have h5 := ih d t
      repeat' split
      all_goals omega
theorem vs_le (F : Nat) (l : List UInt8) : vs F l ≤ l.length := by
  cases l with
  | nil => simp [vs]
  | cons c t =>
    have h1 := fwd_length t
    have h2 := obj_le F 0 (c :: t)
    have h3 := bare_le (c :: t)
    simp only [List.length_cons] at h2 h3
    simp only [vs, List.length_cons]
    repeat' split
    all_goals omega

/-! ### At a place -/
theorem bare_end (L : List UInt8) (k : Nat) (h : L.length ≤ k) : bare (L.drop k) = 0 := by rw [List.drop_eq_nil_of_le h]; simp [bare]
theorem bare_sep {L : List UInt8} {k : Nat} {c : UInt8} (h : L[k]? = some c) (hs : 0 ≤ sepIx c) : bare (L.drop k) = 0 := by rw [drop_at h]; simp [bare, hs]
theorem bare_else {L : List UInt8} {k : Nat} {c : UInt8} (h : L[k]? = some c) (hs : sepIx c < 0) : k + bare (L.drop k) = k + 1 + bare (L.drop (k + 1)) := by
  rw [drop_at h]; simp only [bare]; rw [if_neg (by omega)]; omega

theorem obj_end (f d : Nat) (L : List UInt8) (k : Nat) (h : L.length ≤ k) : obj f d (L.drop k) = 0 := by
  rw [List.drop_eq_nil_of_le h]; cases f <;> simp [obj]
theorem obj_str {L : List UInt8} {k f d : Nat} (h : L[k]? = some 34) :
    k + obj (f + 1) d (L.drop k) = k + 1 + fwd (L.drop (k + 1)) + obj f d (L.drop (k + 1 + fwd (L.drop (k + 1)))) := by
  rw [drop_at h]; simp only [obj, if_true]; rw [List.drop_drop]; omega
theorem obj_open {L : List UInt8} {k f d : Nat} {c : UInt8} (h : L[k]? = some c) (hc : c = 123 ∨ c = 91) : k + obj (f + 1) d (L.drop k) = k + 1 + obj f (d + 1) (L.drop (k + 1)) := by
  have h34 : c ≠ 34 := by rcases hc with e | e <;> (rw [e]; decide)
  rw [drop_at h]; simp only [obj]; rw [if_neg h34, if_pos hc]; omega
theorem obj_close1 {L : List UInt8} {k f : Nat} {c : UInt8} (h : L[k]? = some c) (hc : c = 125 ∨ c = 93) : k + obj (f + 1) 1 (L.drop k) = k + 1 := by
  have h34 : c ≠ 34 := by rcases hc with e | e <;> (rw [e]; decide)
  have ho : ¬ (c = 123 ∨ c = 91) := by rcases hc with e | e <;> (rw [e]; decide)
  rw [drop_at h]; simp only [obj]; rw [if_neg h34, if_neg ho, if_pos hc]; simp
theorem obj_close {L : List UInt8} {k f d : Nat} {c : UInt8} (h : L[k]? = some c) (hc : c = 125 ∨ c = 93) (hd : d ≠ 1) : k + obj (f + 1) d (L.drop k) = k + 1 + obj f (d - 1) (L.drop (k + 1)) := by
  have h34 : c ≠ 34 := by rcases hc with e | e <;> (rw [e]; decide)
  have ho : ¬ (c = 123 ∨ c = 91) := by rcases hc with e | e <;> (rw [e]; decide)
  rw [drop_at h]; simp only [obj]; rw [if_neg h34, if_neg ho, if_pos hc, if_neg hd]; omega
theorem obj_else {L : List UInt8} {k f d : Nat} {c : UInt8} (h : L[k]? = some c) (h34 : c ≠ 34) (ho : ¬ (c = 123 ∨ c = 91)) (hc : ¬ (c = 125 ∨ c = 93)) : k + obj (f + 1) d (L.drop k) = k + 1 + obj f d (L.drop (k + 1)) := by
  rw [drop_at h]; simp only [obj]; rw [if_neg h34, if_neg ho, if_neg hc]; omega

theorem vs_end (F : Nat) (L : List UInt8) (k : Nat) (h : L.length ≤ k) : vs F (L.drop k) = 0 := by rw [List.drop_eq_nil_of_le h]; rfl
theorem vs_str {F : Nat} {L : List UInt8} {k : Nat} (h : L[k]? = some 34) : k + vs F (L.drop k) = k + 1 + fwd (L.drop (k + 1)) := by
  rw [drop_at h]; simp only [vs, if_true]; omega
theorem vs_obj {F : Nat} {L : List UInt8} {k : Nat} {c : UInt8} (h : L[k]? = some c) (hc : c = 123 ∨ c = 91) : vs F (L.drop k) = obj F 0 (L.drop k) := by
  have h34 : c ≠ 34 := by rcases hc with e | e <;> (rw [e]; decide)
  rw [drop_at h]; simp only [vs]; rw [if_neg h34, if_pos hc]
theorem vs_bare {F : Nat} {L : List UInt8} {k : Nat} {c : UInt8} (h : L[k]? = some c) (h34 : c ≠ 34) (hc : ¬ (c = 123 ∨ c = 91)) : vs F (L.drop k) = bare (L.drop k) := by
  rw [drop_at h]; simp only [vs]; rw [if_neg h34, if_neg hc]

/-! ### What follows does not matter -/
theorem fwd_take (n : Nat) : ∀ (l : List UInt8) (m : Nat), l.length ≤ n → fwd l ≤ m → fwd (l.take m) = fwd l := by
  induction n with
  | zero => intro l m h _; cases l with
    | nil => simp
    | cons c u => simp at h
  | succ n ih =>
    intro l m h hm
    match l, h, hm with
    | [], _, _ => simp
    | [c], _, hm =>
      simp only [fwd] at hm
      rw [List.take_of_length_le (by simpa using hm)]
    | c :: e :: u, h, hm =>
      simp only [List.length_cons] at h
      have hp := fwd_pos c (e :: u)
      obtain ⟨m, rfl⟩ : ∃ m', m = m' + 1 := ⟨m - 1, by omega⟩
      by_cases h92 : c = 92
      · subst h92
        rw [fwd_92] at hm ⊢
        obtain ⟨m, rfl⟩ : ∃ m', m = m' + 1 := ⟨m - 1, by omega⟩
        rw [List.take_succ_cons, List.take_succ_cons, fwd_92, ih u m (by omega) (by omega)]
      · by_cases h34 : c = 34
        · subst h34; rw [List.take_succ_cons, fwd_34, fwd_34]
        · rw [fwd_ne c _ h92 h34] at hm ⊢
          rw [List.take_succ_cons, fwd_ne c _ h92 h34, ih (e :: u) m (by simp; omega) (by omega)]
theorem fwd_taken (l : List UInt8) (m : Nat) (h : fwd l ≤ m) : fwd (l.take m) = fwd l := fwd_take l.length l m (Nat.le_refl _) h

theorem obj_pos (f d : Nat) (c : UInt8) (t : List UInt8) : 1 ≤ obj (f + 1) d (c :: t) := by
  simp only [obj]
  repeat' split
  all_goals omega

theorem obj_take (f : Nat) : ∀ (d : Nat) (l : List UInt8) (m : Nat), obj f d l ≤ m → obj f d (l.take m) = obj f d l := by
  induction f with
  | zero => intro d l m _; simp [obj]
  | succ f ih =>
    intro d l m hm
    cases l with
    | nil => simp
    | cons c t =>
      have hp := obj_pos f d c t
      obtain ⟨m, rfl⟩ : ∃ m', m = m' + 1 := ⟨m - 1, by omega⟩
      rw [List.take_succ_cons]
      simp only [obj] at hm ⊢
      by_cases h34 : c = 34
      · rw [if_pos h34] at hm
        rw [if_pos h34, if_pos h34]
        have e1 : fwd (t.take m) = fwd t := fwd_taken t m (by omega)
        rw [e1, List.drop_take, ih d (t.drop (fwd t)) (m - fwd t) (by omega)]
      · rw [if_neg h34] at hm
        rw [if_neg h34, if_neg h34]
        by_cases ho : c = 123 ∨ c = 91
        · rw [if_pos ho] at hm
          rw [if_pos ho, if_pos ho, ih (d + 1) t m (by omega)]
        · rw [if_neg ho] at hm
          rw [if_neg ho, if_neg ho]
          by_cases hc : c = 125 ∨ c = 93
          · rw [if_pos hc] at hm
            rw [if_pos hc, if_pos hc]
            by_cases hd : d = 1
            · rw [if_pos hd, if_pos hd]
            · rw [if_neg hd] at hm
              rw [if_neg hd, if_neg hd, ih (d - 1) t m (by omega)]
          · rw [if_neg hc] at hm
            rw [if_neg hc, if_neg hc, ih d t m (by omega)]

theorem bare_take : ∀ (l : List UInt8) (m : Nat), bare l ≤ m → bare (l.take m) = bare l := by
  intro l
  induction l with
  | nil => intro m _; simp
  | cons c t ih =>
    intro m hm
    simp only [bare] at hm ⊢
    by_cases hs : 0 ≤ sepIx c
    · rw [if_pos hs]
      cases m with
      | zero => simp [bare]
      | succ m => rw [List.take_succ_cons]; simp [bare, hs]
    · rw [if_neg hs] at hm
      obtain ⟨m, rfl⟩ : ∃ m', m = m' + 1 := ⟨m - 1, by omega⟩
      rw [if_neg hs, List.take_succ_cons]
      simp only [bare]
      rw [if_neg hs, ih m (by omega)]

theorem vs_take (F : Nat) (l : List UInt8) (hF : l.length < F) : vs F (l.take (vs F l)) = vs F l := by
  cases l with
  | nil => simp [vs]
  | cons c t =>
    obtain ⟨F, rfl⟩ : ∃ F', F = F' + 1 := ⟨F - 1, by omega⟩
    by_cases h34 : c = 34
    · have e : vs (F + 1) (c :: t) = fwd t + 1 := by simp only [vs]; rw [if_pos h34]
      rw [e, List.take_succ_cons]
      simp only [vs]
      rw [if_pos h34, fwd_taken t (fwd t) (Nat.le_refl _)]
    · by_cases ho : c = 123 ∨ c = 91
      · have e : vs (F + 1) (c :: t) = obj (F + 1) 0 (c :: t) := by simp only [vs]; rw [if_neg h34, if_pos ho]
        rw [e]
        have hk := obj_take (F + 1) 0 (c :: t) (obj (F + 1) 0 (c :: t)) (Nat.le_refl _)
        have hp := obj_pos F 0 c t
        generalize obj (F + 1) 0 (c :: t) = m at hk hp ⊢
        obtain ⟨m, rfl⟩ : ∃ m', m = m' + 1 := ⟨m - 1, by omega⟩
        rw [List.take_succ_cons] at hk ⊢
        rw [show vs (F + 1) (c :: t.take m) = obj (F + 1) 0 (c :: t.take m) from by simp only [vs]; rw [if_neg h34, if_pos ho]]
        exact hk
      · have e : vs (F + 1) (c :: t) = bare (c :: t) := by simp only [vs]; rw [if_neg h34, if_neg ho]
        rw [e]
        have hk := bare_take (c :: t) (bare (c :: t)) (Nat.le_refl _)
        generalize bare (c :: t) = m at hk ⊢
        cases m with
        | zero => simp [vs]
        | succ m =>
          rw [List.take_succ_cons] at hk ⊢
          rw [show vs (F + 1) (c :: t.take m) = bare (c :: t.take m) from by simp only [vs]; rw [if_neg h34, if_neg ho]]
          exact hk

/-- The law's own words on what follows. -/
theorem vs_own (F : Nat) (L : List UInt8) (i : Nat) (hi : i ≤ L.length) (hF : L.length < F) : vs F ((L.take (i + vs F (L.drop i))).drop i) = vs F (L.drop i) := by
  rw [List.drop_take, Nat.add_sub_cancel_left]
  exact vs_take F (L.drop i) (by rw [List.length_drop]; omega)

/-! ### The state machine -/
/-- Inside a string, an escape pending or not: how many bytes of the string are left. -/
def fs (e : Bool) (l : List UInt8) : Nat := if e = true then (match l with | [] => 0 | _ :: u => fwd u + 1) else fwd l
/-- Inside a string at depth d. -/
def ins (f d : Nat) (e : Bool) (l : List UInt8) : Nat := fs e l + (if d = 0 then 0 else obj f d (l.drop (fs e l)))
theorem fs_true_end (L : List UInt8) (k : Nat) (e : Bool) (h : L.length ≤ k) : fs e (L.drop k) = 0 := by
  rw [List.drop_eq_nil_of_le h]; cases e <;> simp [fs, fwd]
theorem fs_92 (t : List UInt8) : fs false (92 :: t) = fs true t + 1 := by
  cases t with
  | nil => simp [fs, fwd]
  | cons e u => simp only [fs]; rw [if_neg (by decide), if_pos trivial, fwd_92]
theorem ins_end (f d : Nat) (e : Bool) (L : List UInt8) (k : Nat) (h : L.length ≤ k) : ins f d e (L.drop k) = 0 := by
  unfold ins
  rw [fs_true_end L k e h, List.drop_eq_nil_of_le h]
  cases f <;> simp [obj]
theorem ins_shift {f d : Nat} {e e' : Bool} {L : List UInt8} {k : Nat} (_h : k + 1 ≤ L.length) (hf : fs e (L.drop k) = fs e' (L.drop (k + 1)) + 1) : k + ins f d e (L.drop k) = k + 1 + ins f d e' (L.drop (k + 1)) := by
  unfold ins
  rw [hf]
  have e1 : (L.drop k).drop (fs e' (L.drop (k + 1)) + 1) = (L.drop (k + 1)).drop (fs e' (L.drop (k + 1))) := by
    rw [List.drop_drop, List.drop_drop]
    congr 1
    omega
  rw [e1]
  omega
theorem ins_esc {f d : Nat} {L : List UInt8} {k : Nat} {c : UInt8} (h : L[k]? = some c) : k + ins f d true (L.drop k) = k + 1 + ins f d false (L.drop (k + 1)) := by
  have := lt_of_at h
  refine ins_shift (by omega) ?_
  rw [drop_at h]; simp [fs]
theorem ins_bs {f d : Nat} {L : List UInt8} {k : Nat} (h : L[k]? = some 92) : k + ins f d false (L.drop k) = k + 1 + ins f d true (L.drop (k + 1)) := by
  have := lt_of_at h
  refine ins_shift (by omega) ?_
  rw [drop_at h]; exact fs_92 _
theorem ins_else {f d : Nat} {L : List UInt8} {k : Nat} {c : UInt8} (h : L[k]? = some c) (h1 : c ≠ 92) (h2 : c ≠ 34) : k + ins f d false (L.drop k) = k + 1 + ins f d false (L.drop (k + 1)) := by
  have := lt_of_at h
  refine ins_shift (by omega) ?_
  rw [drop_at h]; simp only [fs]; rw [if_neg (by decide), if_neg (by decide)]; exact fwd_ne c _ h1 h2
theorem ins_quote0 {f : Nat} {L : List UInt8} {k : Nat} (h : L[k]? = some 34) : k + ins f 0 false (L.drop k) = k + 1 := by
  rw [drop_at h]; simp [ins, fs, fwd_34]
theorem ins_quote {f d : Nat} {L : List UInt8} {k : Nat} (h : L[k]? = some 34) (hd : d ≠ 0) : k + ins f d false (L.drop k) = k + 1 + obj f d (L.drop (k + 1)) := by
  have e : fs false (L.drop k) = 1 := by rw [drop_at h]; simp [fs, fwd_34]
  unfold ins
  rw [e, if_neg hd, List.drop_drop]; omega
/-- A string begins inside an object. -/
theorem obj_ins {L : List UInt8} {k f d : Nat} (h : L[k]? = some 34) (hd : d ≠ 0) : k + obj (f + 1) d (L.drop k) = k + 1 + ins f d false (L.drop (k + 1)) := by
  rw [obj_str h]
  have e : fs false (L.drop (k + 1)) = fwd (L.drop (k + 1)) := by simp [fs]
  unfold ins
  rw [e, if_neg hd, List.drop_drop]; omega
/-- A string is the whole value. -/
theorem vs_ins {F f : Nat} {L : List UInt8} {k : Nat} (h : L[k]? = some 34) : k + vs F (L.drop k) = k + 1 + ins f 0 false (L.drop (k + 1)) := by
  rw [vs_str h]; simp [ins, fs]

end Go.Proofs.Qxb6601478a.Js
