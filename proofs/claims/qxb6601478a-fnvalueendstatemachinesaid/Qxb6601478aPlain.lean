import Derived.Lib.Bytealg
/-
  PLAIN FUNCTIONS ON LISTS OF BYTES that say what stringEnd and valueEnd answer. No program in sight.
-/
namespace Go.Proofs.Qxb6601478a.Js

/-- How many bytes of l (the text behind a string's opening quote) the string takes, its closing quote counted in; all of them where it has no end. -/
def fwd : List UInt8 → Nat
  | [] => 0
  | [_] => 1
  | c :: e :: u => if c = 92 then fwd u + 2 else if c = 34 then 1 else fwd (e :: u) + 1

theorem fwd_34 (t : List UInt8) : fwd (34 :: t) = 1 := by cases t <;> simp [fwd]
theorem fwd_ne (c : UInt8) (t : List UInt8) (h1 : c ≠ 92) (h2 : c ≠ 34) : fwd (c :: t) = fwd t + 1 := by cases t <;> simp [fwd, h1, h2]
theorem fwd_92 (e : UInt8) (u : List UInt8) : fwd (92 :: e :: u) = fwd u + 2 := by simp [fwd]

theorem fwd_le (n : Nat) : ∀ l : List UInt8, l.length ≤ n → fwd l ≤ l.length := by
  induction n with
  | zero => intro l h; cases l with
    | nil => simp [fwd]
    | cons c t => simp at h
  | succ n ih =>
    intro l h
    match l with
    | [] => simp [fwd]
    | [c] => simp [fwd]
    | c :: e :: u =>
      simp only [List.length_cons] at h ⊢
      have h1 := ih u (by omega)
      have h2 := ih (e :: u) (by simp; omega)
      simp at h2
      rw [show fwd (c :: e :: u) = if c = 92 then fwd u + 2 else if c = 34 then 1 else fwd (e :: u) + 1 from by simp [fwd]]
      repeat' split
      all_goals omega
theorem fwd_length (l : List UInt8) : fwd l ≤ l.length := fwd_le l.length l (Nat.le_refl _)
theorem fwd_pos (c : UInt8) (t : List UInt8) : 1 ≤ fwd (c :: t) := by
  cases t with
  | nil => simp [fwd]
  | cons e u => simp only [fwd]; repeat' split
                all_goals omega

theorem drop_at {L : List UInt8} {k : Nat} {c : UInt8} (h : L[k]? = some c) : L.drop k = c :: L.drop (k + 1) := by
  obtain ⟨hk, rfl⟩ := List.getElem?_eq_some_iff.1 h
  exact List.drop_eq_getElem_cons hk
theorem lt_of_at {L : List UInt8} {k : Nat} {c : UInt8} (h : L[k]? = some c) : k < L.length := (List.getElem?_eq_some_iff.1 h).1

/-! ### fwd at a place -/
theorem fwd_end (L : List UInt8) (k : Nat) (h : L.length ≤ k) : fwd (L.drop k) = 0 := by rw [List.drop_eq_nil_of_le h]; simp [fwd]
theorem fwd_at_quote {L : List UInt8} {k : Nat} (h : L[k]? = some 34) : fwd (L.drop k) = 1 := by rw [drop_at h]; exact fwd_34 _
theorem fwd_at_else {L : List UInt8} {k : Nat} {c : UInt8} (h : L[k]? = some c) (h1 : c ≠ 92) (h2 : c ≠ 34) : k + fwd (L.drop k) = k + 1 + fwd (L.drop (k + 1)) := by
  rw [drop_at h, fwd_ne c _ h1 h2]; omega
theorem fwd_at_bs {L : List UInt8} {k : Nat} (h : L[k]? = some 92) (h2 : k + 1 < L.length) : k + fwd (L.drop k) = k + 2 + fwd (L.drop (k + 2)) := by
  rw [drop_at h, List.drop_eq_getElem_cons h2, fwd_92, show k + 1 + 1 = k + 2 from rfl]; omega
theorem fwd_at_bs0 {L : List UInt8} {k : Nat} (h : L[k]? = some 92) (h2 : L.length ≤ k + 1) : k + fwd (L.drop k) = L.length := by
  have := lt_of_at h
  rw [drop_at h, List.drop_eq_nil_of_le h2]; simp [fwd]; omega
theorem fwd_at_le (L : List UInt8) (k : Nat) (h : k ≤ L.length) : k + fwd (L.drop k) ≤ L.length := by
  have := fwd_length (L.drop k); rw [List.length_drop] at this; omega

/-- Over a stretch without quotes that does not end in a backslash the scan comes to its end. -/
theorem fwd_stretch (L : List UInt8) (t : Nat) (ht : t ≤ L.length) : ∀ (m k : Nat), t = k + m → (∀ j, k ≤ j → j < t → L[j]? ≠ some 34) → (k = t ∨ L[t - 1]? ≠ some 92) →
    k + fwd (L.drop k) = t + fwd (L.drop t) := by
  intro m
  induction m using Nat.strongRecOn with
  | _ m ih =>
    intro k hk hno hlast
    by_cases he : k = t
    · rw [he]
    · have hlt : k < L.length := by omega
      have hat : L[k]? = some L[k] := List.getElem?_eq_getElem hlt
      have h34 : L[k] ≠ 34 := by intro e; exact hno k (Nat.le_refl _) (by omega) (by rw [hat, e])
      by_cases h92 : L[k] = 92
      · have h1 : k + 1 ≠ t := by
          intro e
          rcases hlast with h | h
          · exact he h
          · apply h
            rw [show t - 1 = k from by omega, hat, h92]
        have h2 := fwd_at_bs (L := L) (k := k) (by rw [hat, h92]) (by omega)
        rw [h2]
        exact ih (m - 2) (by omega) (k + 2) (by omega) (fun j a b => hno j (by omega) b) (by
          rcases hlast with h | h
          · omega
          · by_cases h3 : k + 2 = t
            · exact .inl h3
            · exact .inr h)
      · rw [fwd_at_else hat h92 h34]
        exact ih (m - 1) (by omega) (k + 1) (by omega) (fun j a b => hno j (by omega) b) (by
          rcases hlast with h | h
          · omega
          · by_cases h3 : k + 1 = t
            · exact .inl h3
            · exact .inr h)

/-- A run of b backslashes ahead of the quote at p. -/
theorem fwd_run (L : List UInt8) (p : Nat) (hp : L[p]? = some 34) : ∀ (b : Nat), b ≤ p → (∀ j, p - b ≤ j → j < p → L[j]? = some 92) →
    (p - b) + fwd (L.drop (p - b)) = if b % 2 = 0 then p + 1 else p + 1 + fwd (L.drop (p + 1)) := by
  intro b
  induction b using Nat.strongRecOn with
  | _ b ih =>
    intro hb hall
    have hlt := lt_of_at hp
    by_cases h0 : b = 0
    · subst h0; rw [Nat.sub_zero, fwd_at_quote hp]; simp
    · have h92 := hall (p - b) (Nat.le_refl _) (by omega)
      rw [fwd_at_bs h92 (by omega)]
      by_cases h1 : b = 1
      · subst h1; rw [show p - 1 + 2 = p + 1 from by omega]; simp
      · have := ih (b - 2) (by omega) (by omega) (fun j a c => hall j (by omega) c)
        rw [show p - (b - 2) = p - b + 2 from by omega] at this
        rw [this, show (b - 2) % 2 = b % 2 from by omega]

/-- No quote at all: the string has no end. -/
theorem fwd_none (n : Nat) : ∀ l : List UInt8, l.length ≤ n → (∀ j : Nat, l[j]? ≠ some 34) → fwd l = l.length := by
  induction n with
  | zero => intro l h _; cases l with
    | nil => simp [fwd]
    | cons c t => simp at h
  | succ n ih =>
    intro l h hno
    match l, h, hno with
    | [], _, _ => simp [fwd]
    | [c], _, _ => simp [fwd]
    | c :: e :: u, h, hno =>
      simp only [List.length_cons] at h ⊢
      have hc : c ≠ 34 := by intro hh; exact hno 0 (by rw [hh]; rfl)
      have h1 := ih u (by omega) (fun j => by have := hno (j + 2); simpa using this)
      have h2 := ih (e :: u) (by simp; omega) (fun j => by have := hno (j + 1); simpa using this)
      simp only [List.length_cons] at h2
      by_cases h92 : c = 92
      · subst h92; rw [fwd_92, h1]
      · rw [fwd_ne c _ h92 hc, h2]

/-! ### indexByte -/
theorem ix_neg {l : List UInt8} {c : UInt8} (h : Lib.indexByte l c < 0) : ∀ j : Nat, l[j]? ≠ some c := by
  induction l with
  | nil => intro j; simp
  | cons b l ih =>
    simp only [Lib.indexByte] at h
    have hge := Lib.indexByte_ge l c
    by_cases hb : (b == c) = true
    · rw [if_pos hb] at h; omega
    · rw [if_neg hb] at h
      have hneg : Lib.indexByte l c < 0 := by
        by_cases h1 : (Lib.indexByte l c == -1) = true
        · have := beq_iff_eq.1 h1; omega
        · rw [if_neg h1] at h; omega
      intro j
      cases j with
      | zero => simp; intro e; apply hb; rw [e]; simp
      | succ j => simpa using ih hneg j
theorem ix_nat {l : List UInt8} {c : UInt8} {m : Nat} (h : Lib.indexByte l c = (m : Int)) : l[m]? = some c ∧ ∀ j, j < m → l[j]? ≠ some c := by
  induction l generalizing m with
  | nil => simp [Lib.indexByte] at h
  | cons b l ih =>
    simp only [Lib.indexByte] at h
    have hge := Lib.indexByte_ge l c
    by_cases hb : (b == c) = true
    · rw [if_pos hb] at h
      have hm : m = 0 := by omega
      subst hm
      exact ⟨by simp at hb; simp [hb], fun j hj => by omega⟩
    · rw [if_neg hb] at h
      by_cases h1 : (Lib.indexByte l c == -1) = true
      · rw [if_pos h1] at h; omega
      · rw [if_neg h1] at h
        have h1' : ¬ Lib.indexByte l c = -1 := by simpa using h1
        obtain ⟨n, rfl⟩ : ∃ n, m = n + 1 := ⟨m - 1, by omega⟩
        have ⟨e1, e2⟩ := ih (m := n) (by omega)
        refine ⟨by simpa using e1, fun j hj => ?_⟩
        cases j with
        | zero => simp; intro e; apply hb; rw [e]; simp
        | succ j => simpa using e2 j (by omega)
theorem ix_drop {L : List UInt8} {k m : Nat} (h : Lib.indexByte (L.drop k) 34 = (m : Int)) : L[k + m]? = some 34 ∧ ∀ j, k ≤ j → j < k + m → L[j]? ≠ some 34 := by
  have ⟨a, b⟩ := ix_nat h
  rw [List.getElem?_drop] at a
  refine ⟨a, fun j h1 h2 => ?_⟩
  have := b (j - k) (by omega)
  rw [List.getElem?_drop, show k + (j - k) = j from by omega] at this
  exact this

/-! ### What stringEnd's round says -/
theorem round_none {L : List UInt8} {k : Nat} (hk : k ≤ L.length) (h : Lib.indexByte (L.drop k) 34 < 0) : k + fwd (L.drop k) = L.length := by
  have := fwd_none (L.drop k).length (L.drop k) (Nat.le_refl _) (ix_neg h)
  rw [this, List.length_drop]; omega
theorem round_hit {L : List UInt8} {k m b : Nat} (h : Lib.indexByte (L.drop k) 34 = (m : Int)) (hb : b ≤ m) (hall : ∀ j, j < b → L[k + m - 1 - j]? = some 92) (hstop : b = m ∨ L[k + m - 1 - b]? ≠ some 92) :
    k + fwd (L.drop k) = if b % 2 = 0 then k + m + 1 else k + m + 1 + fwd (L.drop (k + m + 1)) := by
  have ⟨h34, hno⟩ := ix_drop h
  have hlt := lt_of_at h34
  rw [fwd_stretch L (k + m - b) (by omega) (m - b) k (by omega) (fun j a c => hno j a (by omega)) (by
    rcases hstop with e | e
    · left; omega
    · by_cases h1 : b = m
      · left; omega
      · right; rw [show k + m - b - 1 = k + m - 1 - b from by omega]; exact e)]
  refine fwd_run L (k + m) h34 b (by omega) (fun j a c => ?_)
  have := hall (k + m - 1 - j) (by omega)
  rw [show k + m - 1 - (k + m - 1 - j) = j from by omega] at this
  exact this

/-! ### Under extension -/
theorem fwd_ext (n : Nat) : ∀ (l t : List UInt8), l.length ≤ n → fwd l ≤ fwd (l ++ t) ∧ (fwd l < l.length → fwd (l ++ t) = fwd l ∧ 1 ≤ fwd l ∧ l[fwd l - 1]? = some 34) := by
  induction n with
  | zero => intro l t h; cases l with
    | nil => simp [fwd]
    | cons c u => simp at h
  | succ n ih =>
    intro l t h
    match l, h with
    | [], _ => simp [fwd]
    | [c], _ => exact ⟨by simp only [fwd]; exact fwd_pos c t, by simp [fwd]⟩
    | c :: e :: u, h =>
      simp only [List.length_cons] at h
      by_cases h92 : c = 92
      · subst h92
        have ⟨a, b⟩ := ih u t (by omega)
        rw [List.cons_append, List.cons_append, fwd_92, fwd_92]
        refine ⟨by omega, fun hlt => ?_⟩
        simp only [List.length_cons] at hlt
        obtain ⟨b1, b2, b3⟩ := b (by omega)
        refine ⟨by omega, by omega, ?_⟩
        rw [show fwd u + 2 - 1 = (fwd u - 1) + 1 + 1 from by omega]
        simpa using b3
      · by_cases h34 : c = 34
        · subst h34; rw [List.cons_append, fwd_34, fwd_34]; simp
        · have ⟨a, b⟩ := ih (e :: u) t (by simp; omega)
          rw [List.cons_append, fwd_ne c _ h92 h34, fwd_ne c _ h92 h34]
          refine ⟨by omega, fun hlt => ?_⟩
          simp only [List.length_cons] at hlt
          obtain ⟨b1, b2, b3⟩ := b (by simp; omega)
          refine ⟨by omega, by omega, ?_⟩
          rw [show fwd (e :: u) + 1 - 1 = (fwd (e :: u) - 1) + 1 from by omega]
          simpa using b3

/-- The law's own words. -/
theorem stable (D T : List UInt8) (i : Nat) (hi : i < D.length) :
    i + 1 + fwd (D.drop (i + 1)) ≤ i + 1 + fwd ((D ++ T).drop (i + 1)) ∧
    (i + 1 + fwd (D.drop (i + 1)) < D.length → i + 1 + fwd ((D ++ T).drop (i + 1)) = i + 1 + fwd (D.drop (i + 1)) ∧ 1 ≤ fwd (D.drop (i + 1)) ∧ D[i + fwd (D.drop (i + 1))]? = some 34) := by
  have hd : (D ++ T).drop (i + 1) = D.drop (i + 1) ++ T := List.drop_append_of_le_length (by omega)
  have ⟨a, b⟩ := fwd_ext _ (D.drop (i + 1)) T (Nat.le_refl _)
  rw [hd]
  refine ⟨by omega, fun hlt => ?_⟩
  obtain ⟨b1, b2, b3⟩ := b (by rw [List.length_drop]; omega)
  refine ⟨by omega, b2, ?_⟩
  rw [List.getElem?_drop, show i + 1 + (fwd (D.drop (i + 1)) - 1) = i + fwd (D.drop (i + 1)) from by omega] at b3
  exact b3

end Go.Proofs.Qxb6601478a.Js
