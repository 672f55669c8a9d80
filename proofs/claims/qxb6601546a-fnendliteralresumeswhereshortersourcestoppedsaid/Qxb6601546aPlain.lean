import Derived.Lib.Bytealg
/-
  PLAIN FUNCTIONS ON LISTS OF BYTES that say what endLiteral answers. No program in sight.
-/
namespace Go.Proofs.Qxb6601546a.Lx

/-- From inside a literal: how many bytes it still takes, its closing quote counted in, and whether it closes. -/
def el : List UInt8 → Nat × Bool
  | [] => (0, false)
  | [c] => if c = 39 then (1, true) else (1, false)
  | c :: e :: u => if c = 39 then (if e = 39 then ((el u).1 + 2, (el u).2) else (1, true)) else ((el (e :: u)).1 + 1, (el (e :: u)).2)

theorem el_ne (c : UInt8) (t : List UInt8) (h : c ≠ 39) : el (c :: t) = ((el t).1 + 1, (el t).2) := by cases t <;> simp [el, h]
theorem el_two (u : List UInt8) : el (39 :: 39 :: u) = ((el u).1 + 2, (el u).2) := by simp [el]
theorem el_close (e : UInt8) (u : List UInt8) (h : e ≠ 39) : el (39 :: e :: u) = (1, true) := by simp [el, h]
theorem el_last : el [39] = (1, true) := by simp [el]

theorem el_le (n : Nat) : ∀ l : List UInt8, l.length ≤ n → (el l).1 ≤ l.length := by
  induction n with
  | zero => intro l h; cases l with
    | nil => simp [el]
    | cons c t => simp at h
  | succ n ih =>
    intro l h
    match l, h with
    | [], _ => simp [el]
    | [c], _ => simp only [el]; split <;> simp
    | c :: e :: u, h =>
      simp only [List.length_cons] at h ⊢
      have h1 := ih u (by omega)
      have h2 := ih (e :: u) (by simp; omega)
      simp at h2
      by_cases h39 : c = 39
      · subst h39
        by_cases he : e = 39
        · subst he; rw [el_two]; simp only; omega
        · rw [el_close e u he]; simp only; omega
      · rw [el_ne c _ h39]; simp only; omega
theorem el_length (l : List UInt8) : (el l).1 ≤ l.length := el_le l.length l (Nat.le_refl _)

theorem drop_at {L : List UInt8} {k : Nat} {c : UInt8} (h : L[k]? = some c) : L.drop k = c :: L.drop (k + 1) := by
  obtain ⟨hk, rfl⟩ := List.getElem?_eq_some_iff.1 h
  exact List.drop_eq_getElem_cons hk
theorem lt_of_at {L : List UInt8} {k : Nat} {c : UInt8} (h : L[k]? = some c) : k < L.length := (List.getElem?_eq_some_iff.1 h).1

/-- The answer from the place k on: the new place, and whether it closes. -/
def ans (L : List UInt8) (k : Nat) : Nat × Bool := (k + (el (L.drop k)).1, (el (L.drop k)).2)

theorem ans_le (L : List UInt8) (k : Nat) (h : k ≤ L.length) : (ans L k).1 ≤ L.length := by
  have := el_length (L.drop k); rw [List.length_drop] at this; simp only [ans]; omega
theorem ans_end (L : List UInt8) : ans L L.length = (L.length, false) := by simp [ans, el]
theorem ans_step {L : List UInt8} {k : Nat} {c : UInt8} (h : L[k]? = some c) (hc : c ≠ 39) : ans L k = ans L (k + 1) := by
  unfold ans; rw [drop_at h, el_ne c _ hc]; simp only [Prod.mk.injEq, and_true]; omega
theorem ans_pair {L : List UInt8} {k : Nat} (h : L[k]? = some 39) (h2 : L[k + 1]? = some 39) : ans L k = ans L (k + 2) := by
  unfold ans; rw [drop_at h, drop_at h2, el_two, show k + 1 + 1 = k + 2 from rfl]; simp only [Prod.mk.injEq, and_true]; omega
theorem ans_close {L : List UInt8} {k : Nat} {c : UInt8} (h : L[k]? = some 39) (h2 : L[k + 1]? = some c) (hc : c ≠ 39) : ans L k = (k + 1, true) := by
  unfold ans; rw [drop_at h, drop_at h2, el_close c _ hc]
theorem ans_last {L : List UInt8} {k : Nat} (h : L[k]? = some 39) (h2 : L.length ≤ k + 1) : ans L k = (k + 1, true) := by
  unfold ans; rw [drop_at h, List.drop_eq_nil_of_le h2, el_last]

/-- Over a stretch without quotes. -/
theorem ans_stretch (L : List UInt8) : ∀ (m k : Nat), k + m ≤ L.length → (∀ j, k ≤ j → j < k + m → L[j]? ≠ some 39) → ans L k = ans L (k + m) := by
  intro m
  induction m with
  | zero => intro k _ _; rfl
  | succ m ih =>
    intro k hk hno
    have hlt : k < L.length := by omega
    have hat : L[k]? = some L[k] := List.getElem?_eq_getElem hlt
    have h39 : L[k] ≠ 39 := by intro e; exact hno k (Nat.le_refl _) (by omega) (by rw [hat, e])
    rw [ans_step hat h39, ih (k + 1) (by omega) (fun j a b => hno j (by omega) (by omega))]
    rw [show k + 1 + m = k + (m + 1) from by omega]

/-- A run of q quotes. -/
theorem ans_run (L : List UInt8) : ∀ (q k : Nat), (∀ j, k ≤ j → j < k + q → L[j]? = some 39) → L[k + q]? ≠ some 39 → ans L k = if q % 2 = 1 then (k + q, true) else ans L (k + q) := by
  intro q
  induction q using Nat.strongRecOn with
  | _ q ih =>
    intro k hall hstop
    by_cases h0 : q = 0
    · subst h0; simp
    · have h1 := hall k (Nat.le_refl _) (by omega)
      by_cases hq1 : q = 1
      · subst hq1
        rw [if_pos (by decide)]
        by_cases hlt : k + 1 < L.length
        · have hat : L[k + 1]? = some L[k + 1] := List.getElem?_eq_getElem hlt
          exact ans_close h1 hat (by intro e; apply hstop; rw [hat, e])
        · exact ans_last h1 (by omega)
      · rw [ans_pair h1 (hall (k + 1) (by omega) (by omega)), ih (q - 2) (by omega) (k + 2) (fun j a b => hall j (by omega) (by omega)) (by rw [show k + 2 + (q - 2) = k + q from by omega]; exact hstop)]
        rw [show (q - 2) % 2 = q % 2 from by omega, show k + 2 + (q - 2) = k + q from by omega]

/-! ### indexByte -/
theorem ix_neg {l : List UInt8} {c : UInt8} (h : Lib.indexByte l c < 0) : ∀ j : Nat, l[j]? ≠ some c := by
  induction l with
  | nil => intro j; simp
  | cons b l ih =>
    simp only [Lib.indexByte] at h
    have hge := Lib.indexByte_ge l c
    by_cases hb : (b == c) = true
    · rw [if_pos hb] at h; omega
    · rw [if_neg hb] at h
      have hneg : Lib.indexByte l c < 0 := by
        by_cases h1 : (Lib.indexByte l c == -1) = true
        · have := beq_iff_eq.1 h1; omega
        · rw [if_neg h1] at h; omega
      intro j
      cases j with
      | zero => simp; intro e; apply hb; rw [e]; simp
      | succ j => simpa using ih hneg j
theorem ix_nat {l : List UInt8} {c : UInt8} {m : Nat} (h : Lib.indexByte l c = (m : Int)) : l[m]? = some c ∧ ∀ j, j < m → l[j]? ≠ some c := by
  induction l generalizing m with
  | nil => simp [Lib.indexByte] at h
  | cons b l ih =>
    simp only [Lib.indexByte] at h
    have hge := Lib.indexByte_ge l c
    by_cases hb : (b == c) = true
    · rw [if_pos hb] at h
      have hm : m = 0 := by omega
      subst hm
      exact ⟨by simp at hb; simp [hb], fun j hj => by omega⟩
    · rw [if_neg hb] at h
      by_cases h1 : (Lib.indexByte l c == -1) = true
      · rw [if_pos h1] at h; omega
      · rw [if_neg h1] at h
        have h1' : ¬ Lib.indexByte l c = -1 := by simpa using h1
        obtain ⟨n, rfl⟩ : ∃ n, m = n + 1 := ⟨m - 1, by omega⟩
        have ⟨e1, e2⟩ := ih (m := n) (by omega)
        refine ⟨by simpa using e1, fun j hj => ?_⟩
        cases j with
        | zero => simp; intro e; apply hb; rw [e]; simp
        | succ j => simpa using e2 j (by omega)
theorem ix_drop {L : List UInt8} {k m : Nat} (h : Lib.indexByte (L.drop k) 39 = (m : Int)) : L[k + m]? = some 39 ∧ ∀ j, k ≤ j → j < k + m → L[j]? ≠ some 39 := by
  have ⟨a, b⟩ := ix_nat h
  rw [List.getElem?_drop] at a
  refine ⟨a, fun j h1 h2 => ?_⟩
  have := b (j - k) (by omega)
  rw [List.getElem?_drop, show k + (j - k) = j from by omega] at this
  exact this

/-! ### What endLiteral's round says -/
theorem round_none {L : List UInt8} {k : Nat} (hk : k ≤ L.length) (h : Lib.indexByte (L.drop k) 39 < 0) : ans L k = (L.length, false) := by
  rw [ans_stretch L (L.length - k) k (by omega) (fun j a _ => by
    have := ix_neg h (j - k)
    rw [List.getElem?_drop, show k + (j - k) = j from by omega] at this
    exact this), show k + (L.length - k) = L.length from by omega, ans_end]
theorem round_at {L : List UInt8} {k m : Nat} (h : Lib.indexByte (L.drop k) 39 = (m : Int)) : ans L k = ans L (k + m) := by
  have ⟨h39, hno⟩ := ix_drop h
  have := lt_of_at h39
  exact ans_stretch L m k (by omega) hno

/-! ### Picked up again -/
theorem el_more (n : Nat) : ∀ (l t : List UInt8), l.length ≤ n → (el l).2 = false → (el l).1 = l.length ∧ el (l ++ t) = (l.length + (el t).1, (el t).2) := by
  induction n with
  | zero => intro l t h _; cases l with
    | nil => simp [el]
    | cons c u => simp at h
  | succ n ih =>
    intro l t h hf
    match l, h, hf with
    | [], _, _ => simp [el]
    | [c], _, hf =>
      have hc : c ≠ 39 := by intro e; subst e; simp [el] at hf
      refine ⟨by simp [el, hc], ?_⟩
      rw [List.singleton_append, el_ne c t hc]; simp only [List.length_singleton, Prod.mk.injEq, and_true]; omega
    | c :: e :: u, h, hf =>
      simp only [List.length_cons] at h ⊢
      by_cases h39 : c = 39
      · subst h39
        by_cases he : e = 39
        · subst he
          rw [el_two] at hf ⊢
          have ⟨a, b⟩ := ih u t (by omega) hf
          rw [List.cons_append, List.cons_append, el_two, b]
          simp only [Prod.mk.injEq, and_true]
          omega
        · rw [el_close e u he] at hf; simp at hf
      · rw [el_ne c _ h39] at hf ⊢
        have ⟨a, b⟩ := ih (e :: u) t (by simp; omega) hf
        simp only [List.length_cons] at a b
        rw [List.cons_append, el_ne c _ h39, b]
        simp only [Prod.mk.injEq, and_true]
        omega

/-- The law's own words. -/
theorem resume (L : List UInt8) (p m : Nat) (hp : p ≤ m) (hm : m ≤ L.length) (h : (ans (L.take m) p).2 = false) : (ans (L.take m) p).1 = m ∧ ans L m = ans L p := by
  have e1 : (L.take m).drop p = (L.drop p).take (m - p) := List.drop_take
  have e2 : L.drop p = (L.drop p).take (m - p) ++ L.drop m := by
    conv => lhs; rw [← List.take_append_drop (m - p) (L.drop p)]
    rw [List.drop_drop, show p + (m - p) = m from by omega]
  have hl : ((L.drop p).take (m - p)).length = m - p := by simp; omega
  unfold ans at h ⊢
  rw [e1] at h ⊢
  have ⟨a, b⟩ := el_more _ ((L.drop p).take (m - p)) (L.drop m) (Nat.le_refl _) h
  rw [← e2] at b
  rw [a, b, hl]
  refine ⟨by omega, ?_⟩
  simp only [Prod.mk.injEq, and_true]
  omega

end Go.Proofs.Qxb6601546a.Lx
