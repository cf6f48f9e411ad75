/- The merge of two lists in strict key order, plainly: no Go in sight. -/
import Derived.Test.Qxb6615042aOrd
namespace Go.Proofs.Qxb6615042a
section
variable {α : Type} (key : α → List UInt8)

/-- A list in strict order of its keys. -/
def Asc (l : List α) : Prop := l.Pairwise fun x y => Op.bytesLess (key x) (key y) = true

/-- The elements of 'as' whose key is none of those of 'bs'. -/
def left (as bs : List α) : List α := as.filter fun a => decide (key a ∉ bs.map key)

/-- One round of the merge: the head a of the first list, the merge of its tail. -/
def mrgIn (a : α) (go : List α → List α) : List α → List α
  | [] => a :: go []
  | b :: bs =>
    if Op.bytesLess (key a) (key b) = true then a :: go (b :: bs)
    else if key a = key b then b :: go bs
    else b :: mrgIn a go bs
def mrg : List α → List α → List α
  | [] => fun bs => bs
  | a :: as => mrgIn key a (mrg as)

theorem mrg_nil : ∀ (as : List α), mrg key as [] = as
  | [] => rfl
  | a :: as => by
    show a :: mrg key as [] = a :: as
    rw [mrg_nil as]
theorem mrg_nil' (bs : List α) : mrg key [] bs = bs := rfl
theorem mrg_lt (a b : α) (as bs : List α) (h : Op.bytesLess (key a) (key b) = true) : mrg key (a :: as) (b :: bs) = a :: mrg key as (b :: bs) := by
  show (if Op.bytesLess (key a) (key b) = true then a :: mrg key as (b :: bs) else if key a = key b then b :: mrg key as bs else b :: mrg key (a :: as) bs) = _
  rw [if_pos h]
theorem mrg_eq (a b : α) (as bs : List α) (h : key a = key b) : mrg key (a :: as) (b :: bs) = b :: mrg key as bs := by
  show (if Op.bytesLess (key a) (key b) = true then a :: mrg key as (b :: bs) else if key a = key b then b :: mrg key as bs else b :: mrg key (a :: as) bs) = _
  rw [if_neg (by rw [h, less_irrefl]; exact Bool.false_ne_true), if_pos h]
theorem mrg_gt (a b : α) (as bs : List α) (h : Op.bytesLess (key a) (key b) = false) (h' : key a ≠ key b) : mrg key (a :: as) (b :: bs) = b :: mrg key (a :: as) bs := by
  show (if Op.bytesLess (key a) (key b) = true then a :: mrg key as (b :: bs) else if key a = key b then b :: mrg key as bs else b :: mrg key (a :: as) bs) = _
  rw [if_neg (by rw [h]; exact Bool.false_ne_true), if_neg h']

theorem less_ne {x y : List UInt8} (h : Op.bytesLess x y = true) : x ≠ y := fun e => by subst e; rw [less_irrefl] at h; cases h

theorem left_cons_out {as : List α} {b : α} {bs : List α} (h : ∀ a ∈ as, key a ≠ key b) : left key as (b :: bs) = left key as bs := by
  unfold left
  refine List.filter_congr fun a ha => ?_
  have := h a ha
  simp [this]

theorem left_perm (as : List α) : ∀ (bs : List α), Asc key as → Asc key bs → (mrg key as bs).Perm (bs ++ left key as bs) := by
  induction as with
  | nil => intro bs _ _; simp [mrg_nil', left]
  | cons a as ih =>
    intro bs ha
    induction bs with
    | nil =>
      intro _
      rw [mrg_nil]
      have : left key (a :: as) [] = a :: as := by unfold left; rw [List.filter_eq_self]; intro x _; simp
      rw [this]; exact List.Perm.refl _
    | cons b bs ihb =>
      intro hb
      have ha' := List.pairwise_cons.1 ha
      have hb' := List.pairwise_cons.1 hb
      cases hL : Op.bytesLess (key a) (key b)
      · by_cases hE : key a = key b
        · rw [mrg_eq key a b as bs hE]
          have e1 : left key (a :: as) (b :: bs) = left key as bs := by
            have : left key (a :: as) (b :: bs) = left key as (b :: bs) := by
              unfold left; rw [List.filter_cons_of_neg]; simp [hE]
            rw [this]
            exact left_cons_out key fun x hx e => less_ne (ha'.1 x hx) (by rw [hE, e])
          rw [e1]
          exact (ih bs ha'.2 hb'.2).cons b
        · rw [mrg_gt key a b as bs hL hE]
          have hba : Op.bytesLess (key b) (key a) = true := by
            cases h : Op.bytesLess (key b) (key a)
            · exact absurd (less_total hL h) hE
            · rfl
          have e1 : left key (a :: as) (b :: bs) = left key (a :: as) bs := by
            refine left_cons_out key fun x hx e => ?_
            rcases List.mem_cons.1 hx with rfl | hx
            · exact hE e
            · exact less_ne (less_trans hba (ha'.1 x hx)) e.symm
          rw [e1]
          exact (ihb hb'.2).cons b
      · rw [mrg_lt key a b as bs hL]
        have e1 : left key (a :: as) (b :: bs) = a :: left key as (b :: bs) := by
          unfold left
          rw [List.filter_cons_of_pos]
          simp only [decide_eq_true_eq]
          intro h
          obtain ⟨y, hy, e⟩ := List.mem_map.1 h
          rcases List.mem_cons.1 hy with rfl | hy
          · exact less_ne hL e.symm
          · exact less_ne (less_trans hL (hb'.1 y hy)) e.symm
        rw [e1]
        exact ((ih (b :: bs) ha'.2 hb).cons a).trans List.perm_middle.symm

theorem mem_mrg {as bs : List α} (ha : Asc key as) (hb : Asc key bs) (x : α) : x ∈ mrg key as bs ↔ x ∈ bs ∨ (x ∈ as ∧ key x ∉ bs.map key) := by
  rw [(left_perm key as bs ha hb).mem_iff, List.mem_append]
  unfold left
  rw [List.mem_filter, decide_eq_true_eq]

theorem asc_mrg (as : List α) : ∀ (bs : List α), Asc key as → Asc key bs → Asc key (mrg key as bs) := by
  induction as with
  | nil => intro bs _ hb; rw [mrg_nil']; exact hb
  | cons a as ih =>
    intro bs ha
    induction bs with
    | nil => intro _; rw [mrg_nil]; exact ha
    | cons b bs ihb =>
      intro hb
      have ha' := List.pairwise_cons.1 ha
      have hb' := List.pairwise_cons.1 hb
      cases hL : Op.bytesLess (key a) (key b)
      · by_cases hE : key a = key b
        · rw [mrg_eq key a b as bs hE]
          refine List.pairwise_cons.2 ⟨fun x hx => ?_, ih bs ha'.2 hb'.2⟩
          rcases (mem_mrg key ha'.2 hb'.2 x).1 hx with h | ⟨h, _⟩
          · exact hb'.1 x h
          · rw [← hE]; exact ha'.1 x h
        · rw [mrg_gt key a b as bs hL hE]
          have hba : Op.bytesLess (key b) (key a) = true := by
            cases h : Op.bytesLess (key b) (key a)
            · exact absurd (less_total hL h) hE
            · rfl
          refine List.pairwise_cons.2 ⟨fun x hx => ?_, ihb hb'.2⟩
          rcases (mem_mrg key ha hb'.2 x).1 hx with h | ⟨h, _⟩
          · exact hb'.1 x h
          · rcases List.mem_cons.1 h with rfl | h
            · exact hba
            · exact less_trans hba (ha'.1 x h)
      · rw [mrg_lt key a b as bs hL]
        refine List.pairwise_cons.2 ⟨fun x hx => ?_, ih (b :: bs) ha'.2 hb⟩
        rcases (mem_mrg key ha'.2 hb x).1 hx with h | ⟨h, _⟩
        · rcases List.mem_cons.1 h with rfl | h
          · exact hL
          · exact less_trans hL (hb'.1 x h)
        · exact ha'.1 x h

/-- Two lists in strict order with the same members are the same. -/
theorem asc_ext : ∀ (l m : List α), Asc key l → Asc key m → (∀ x, x ∈ l ↔ x ∈ m) → l = m
  | [], [], _, _, _ => rfl
  | [], y :: m, _, _, h => absurd ((h y).2 (List.mem_cons_self ..)) (List.not_mem_nil)
  | x :: l, [], _, _, h => absurd ((h x).1 (List.mem_cons_self ..)) (List.not_mem_nil)
  | x :: l, y :: m, hl, hm, h => by
    have hl' := List.pairwise_cons.1 hl
    have hm' := List.pairwise_cons.1 hm
    have e : x = y := by
      rcases List.mem_cons.1 ((h x).1 (List.mem_cons_self ..)) with e | h1
      · exact e
      · rcases List.mem_cons.1 ((h y).2 (List.mem_cons_self ..)) with e | h2
        · exact e.symm
        · exact absurd rfl (less_ne (less_trans (hl'.1 y h2) (hm'.1 x h1)))
    subst e
    rw [asc_ext l m hl'.2 hm'.2 fun z => ?_]
    constructor
    · intro hz
      rcases List.mem_cons.1 ((h z).1 (List.mem_cons_of_mem _ hz)) with e | h1
      · subst e; exact absurd rfl (less_ne (hl'.1 z hz))
      · exact h1
    · intro hz
      rcases List.mem_cons.1 ((h z).2 (List.mem_cons_of_mem _ hz)) with e | h1
      · subst e; exact absurd rfl (less_ne (hm'.1 z hz))
      · exact h1

theorem key_inj {l : List α} (h : Asc key l) {x y : α} (hx : x ∈ l) (hy : y ∈ l) (e : key x = key y) : x = y := by
  induction l with
  | nil => cases hx
  | cons a l ih =>
    have h' := List.pairwise_cons.1 h
    rcases List.mem_cons.1 hx with rfl | hx1
    · rcases List.mem_cons.1 hy with rfl | hy
      · rfl
      · exact absurd e (less_ne (h'.1 y hy))
    · rcases List.mem_cons.1 hy with rfl | hy
      · exact absurd e.symm (less_ne (h'.1 x hx1))
      · exact ih h'.2 hx1 hy

theorem mem_keys_mrg {as bs : List α} (ha : Asc key as) (hb : Asc key bs) (k : List UInt8) : k ∈ (mrg key as bs).map key ↔ k ∈ bs.map key ∨ k ∈ as.map key := by
  constructor
  · intro h
    obtain ⟨x, hx, rfl⟩ := List.mem_map.1 h
    rcases (mem_mrg key ha hb x).1 hx with h | ⟨h, _⟩
    · exact Or.inl (List.mem_map_of_mem h)
    · exact Or.inr (List.mem_map_of_mem h)
  · intro h
    by_cases hk : k ∈ bs.map key
    · obtain ⟨x, hx, rfl⟩ := List.mem_map.1 hk
      exact List.mem_map_of_mem ((mem_mrg key ha hb x).2 (Or.inl hx))
    · obtain ⟨x, hx, rfl⟩ := List.mem_map.1 (h.resolve_left hk)
      exact List.mem_map_of_mem ((mem_mrg key ha hb x).2 (Or.inr ⟨hx, hk⟩))

theorem mrg_assoc {as bs cs : List α} (ha : Asc key as) (hb : Asc key bs) (hc : Asc key cs) : mrg key (mrg key as bs) cs = mrg key as (mrg key bs cs) := by
  have hab := asc_mrg key as bs ha hb
  have hbc := asc_mrg key bs cs hb hc
  refine asc_ext key _ _ (asc_mrg key _ _ hab hc) (asc_mrg key _ _ ha hbc) fun x => ?_
  rw [mem_mrg key hab hc, mem_mrg key ha hb, mem_mrg key ha hbc, mem_mrg key hb hc, mem_keys_mrg key hb hc]
  constructor
  · rintro (h | ⟨h | ⟨h, h1⟩, h2⟩)
    · exact Or.inl (Or.inl h)
    · exact Or.inl (Or.inr ⟨h, h2⟩)
    · exact Or.inr ⟨h, fun h3 => h3.elim h2 h1⟩
  · rintro ((h | ⟨h, h2⟩) | ⟨h, h1⟩)
    · exact Or.inl h
    · exact Or.inr ⟨Or.inl h, h2⟩
    · exact Or.inr ⟨Or.inr ⟨h, fun h3 => h1 (Or.inr h3)⟩, fun h3 => h1 (Or.inl h3)⟩

theorem length_mrg {as bs : List α} (ha : Asc key as) (hb : Asc key bs) : (mrg key as bs).length = bs.length + (left key as bs).length := by
  rw [(left_perm key as bs ha hb).length_eq, List.length_append]
theorem sum_mrg (f : α → Nat) {as bs : List α} (ha : Asc key as) (hb : Asc key bs) : ((mrg key as bs).map f).sum = (bs.map f).sum + ((left key as bs).map f).sum := by
  rw [((left_perm key as bs ha hb).map f).sum_nat, List.map_append, List.sum_append]

/-- Those of 'as' that stand in neither 'bs' nor 'cs'. -/
theorem left_mrg {as bs cs : List α} (hb : Asc key bs) (hc : Asc key cs) : left key as (mrg key bs cs) = as.filter fun a => decide (key a ∉ bs.map key) && decide (key a ∉ cs.map key) := by
  unfold left
  refine List.filter_congr fun a _ => ?_
  have := mem_keys_mrg key hb hc (key a)
  by_cases h1 : key a ∈ bs.map key <;> by_cases h2 : key a ∈ cs.map key <;> simp_all
end
end Go.Proofs.Qxb6615042a
