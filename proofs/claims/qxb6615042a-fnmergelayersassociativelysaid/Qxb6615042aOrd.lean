/- Plain facts on the order of strings ('Op.bytesLess'), on lists in strict order and on a search in them: no Go in sight. -/
import GoSem.Op.String
namespace Go.Proofs.Qxb6615042a

theorem less_irrefl : ∀ a : List UInt8, Op.bytesLess a a = false
  | [] => rfl
  | a :: x => by
    unfold Op.bytesLess
    rw [less_irrefl x]
    simp

theorem less_trans : ∀ {a b c : List UInt8}, Op.bytesLess a b = true → Op.bytesLess b c = true → Op.bytesLess a c = true
  | _, [], _, h, _ => by simp [Op.bytesLess] at h
  | _, b :: y, [], _, h => by simp [Op.bytesLess] at h
  | [], b :: y, c :: z, _, _ => by simp [Op.bytesLess]
  | a :: x, b :: y, c :: z, h1, h2 => by
    simp only [Op.bytesLess, Bool.or_eq_true, Bool.and_eq_true, decide_eq_true_eq, beq_iff_eq] at h1 h2 ⊢
    rcases h1 with h1 | ⟨rfl, h1⟩
    · rcases h2 with h2 | ⟨rfl, h2⟩
      · exact Or.inl (UInt8.lt_trans h1 h2)
      · exact Or.inl h1
    · rcases h2 with h2 | ⟨rfl, h2⟩
      · exact Or.inl h2
      · exact Or.inr ⟨rfl, less_trans h1 h2⟩

theorem less_total : ∀ {a b : List UInt8}, Op.bytesLess a b = false → Op.bytesLess b a = false → a = b
  | [], [], _, _ => rfl
  | [], _ :: _, h, _ => by simp [Op.bytesLess] at h
  | _ :: _, [], _, h => by simp [Op.bytesLess] at h
  | a :: x, b :: y, h1, h2 => by
    simp only [Op.bytesLess, Bool.or_eq_false_iff, Bool.and_eq_false_iff, decide_eq_false_iff_not, beq_eq_false_iff_ne] at h1 h2
    have e : a = b := UInt8.le_antisymm (UInt8.not_lt.1 h2.1) (UInt8.not_lt.1 h1.1)
    subst e
    have h3 : Op.bytesLess x y = false := by rcases h1.2 with h | h; exact absurd rfl h; exact h
    have h4 : Op.bytesLess y x = false := by rcases h2.2 with h | h; exact absurd rfl h; exact h
    rw [less_total h3 h4]

/-- The first n keys stand in strict order. -/
def Rises (k : Nat → List UInt8) (n : Nat) : Prop := ∀ i, i + 1 < n → Op.bytesLess (k i) (k (i + 1)) = true

theorem Rises.lt {k : Nat → List UInt8} {n : Nat} (h : Rises k n) {i : Nat} : ∀ {j : Nat}, i < j → j < n → Op.bytesLess (k i) (k j) = true
  | 0, hi, _ => absurd hi (Nat.not_lt_zero i)
  | j + 1, hi, hj => by
    by_cases e : i = j
    · subst e; exact h i hj
    · exact less_trans (h.lt (j := j) (by omega) (by omega)) (h j hj)

theorem Rises.inj {k : Nat → List UInt8} {n : Nat} (h : Rises k n) {i j : Nat} (hi : i < n) (hj : j < n) (e : k i = k j) : i = j := by
  rcases Nat.lt_trichotomy i j with h1 | h1 | h1
  · have := h.lt h1 hj; rw [e, less_irrefl] at this; cases this
  · exact h1
  · have := h.lt h1 hi; rw [e, less_irrefl] at this; cases this

/-- THE SEARCH's STATE: what stands below lo is less than x, what stands from hi on is not. -/
def Srch (k : Nat → List UInt8) (n : Nat) (x : List UInt8) (lo hi : Nat) : Prop :=
  lo ≤ hi ∧ hi ≤ n ∧ (∀ i, i < lo → Op.bytesLess (k i) x = true) ∧ (∀ i, hi ≤ i → i < n → Op.bytesLess (k i) x = false)

theorem srch_start (k : Nat → List UInt8) (n : Nat) (x : List UInt8) : Srch k n x 0 n := ⟨Nat.zero_le _, Nat.le_refl _, fun i h => absurd h (Nat.not_lt_zero i), fun i h h' => absurd h' (by omega)⟩

theorem srch_right {k : Nat → List UInt8} {n : Nat} {x : List UInt8} {lo hi m : Nat} (hR : Rises k n) (h : Srch k n x lo hi) (h1 : lo ≤ m) (h2 : m < hi) (hl : Op.bytesLess (k m) x = true) : Srch k n x (m + 1) hi := by
  refine ⟨h2, h.2.1, fun i hi' => ?_, h.2.2.2⟩
  by_cases e : i = m
  · subst e; exact hl
  · exact less_trans (hR.lt (i := i) (j := m) (by omega) (by have := h.2.1; omega)) hl

theorem srch_left {k : Nat → List UInt8} {n : Nat} {x : List UInt8} {lo hi m : Nat} (hR : Rises k n) (h : Srch k n x lo hi) (h1 : lo ≤ m) (h2 : m < hi) (hl : Op.bytesLess (k m) x = false) : Srch k n x lo m := by
  refine ⟨h1, by have := h.2.1; omega, h.2.2.1, fun i hi' hn => ?_⟩
  by_cases e : i = m
  · subst e; exact hl
  · cases hb : Op.bytesLess (k i) x
    · rfl
    · have := less_trans (hR.lt (i := m) (j := i) (by omega) hn) hb
      rw [hl] at this; cases this

/-- The search is over and has not met x: x is nowhere. -/
theorem srch_miss {k : Nat → List UInt8} {n : Nat} {x : List UInt8} {lo : Nat} (hR : Rises k n) (h : Srch k n x lo lo) (hx : lo < n → k lo ≠ x) : ∀ i, i < n → k i ≠ x := by
  intro i hi e
  rcases Nat.lt_trichotomy i lo with h1 | h1 | h1
  · have := h.2.2.1 i h1; rw [e, less_irrefl] at this; cases this
  · subst h1; exact hx hi e
  · have h2 := h.2.2.2 lo (Nat.le_refl _) (by omega)
    have h3 := hR.lt (i := lo) (j := i) h1 hi
    rw [e, h2] at h3; cases h3

end Go.Proofs.Qxb6615042a
