/- The lists of encoded flags, and what the plain merge says of them. -/
import Derived.Test.Qxb6615042aMerge
import Derived.Test.Qxb6615042aOver
namespace Go.Proofs.Qxb6615042a
open Go.RowKit

def mkl (F : Nat → Nat) (p : Nat → Src) (n : Nat) : List El := (List.range n).map fun i => ⟨F i, p i⟩
theorem mkl_len (F : Nat → Nat) (p : Nat → Src) (n : Nat) : (mkl F p n).length = n := by simp [mkl]
theorem mkl_src (F : Nat → Nat) (p : Nat → Src) (n : Nat) : (mkl F p n).map El.src = lsrc p n := by simp [mkl, lsrc, Function.comp_def]
theorem mkl_get {F : Nat → Nat} {p : Nat → Src} {n i : Nat} {x : El} (h : (mkl F p n)[i]? = some x) : i < n ∧ x = ⟨F i, p i⟩ := by
  have hi : i < n := by have := (List.getElem?_eq_some_iff.1 h).1; rwa [mkl_len] at this
  refine ⟨hi, ?_⟩
  simp [mkl, hi] at h
  exact h.symm
theorem mem_mkl {F : Nat → Nat} {p : Nat → Src} {n : Nat} {x : El} : x ∈ mkl F p n ↔ ∃ i, i < n ∧ x = ⟨F i, p i⟩ := by
  simp only [mkl, List.mem_map, List.mem_range]
  exact ⟨fun ⟨i, h, e⟩ => ⟨i, h, e.symm⟩, fun ⟨i, h, e⟩ => ⟨i, h, e.symm⟩⟩
theorem asc_mkl {F : Nat → Nat} {p : Nat → Src} {n : Nat} (h : Rises (ks p) n) : Asc El.k (mkl F p n) := by
  unfold Asc mkl
  rw [List.pairwise_map]
  rw [List.pairwise_iff_getElem]
  intro i j hi hj hij
  simp only [List.length_range] at hi hj
  simp only [List.getElem_range]
  exact h.lt hij hj
theorem Encs.below {w w' : World} {B k : Nat} {F : Nat → Nat} {p : Nat → Src} (h : Encs w B k F p) (hb : Below w.heap.size w w') : Encs w' B k F p := by
  obtain ⟨h1, h2⟩ := h
  refine ⟨Nat.lt_of_lt_of_le h1 hb.size, fun i hi => ?_⟩
  obtain ⟨a, b, c, d⟩ := h2 i hi
  exact ⟨Below.range hb a h1, by rw [hb.cell d]; exact b, c, Nat.lt_of_lt_of_le d hb.size⟩
theorem Encs.sl {w : World} {B n : Nat} {F : Nat → Nat} {p : Nat → Src} (h : Encs w B n F p) : Sl w (.slice (some ⟨B, 0, none⟩) n n) (mkl F p n) := by
  refine ⟨some ⟨B, 0, none⟩, n, by rw [mkl_len], by rw [mkl_len]; exact Nat.le_refl _, fun _ => ⟨B, 0, rfl, h.1, fun i x hx => ?_⟩⟩
  obtain ⟨hi, rfl⟩ := mkl_get hx
  obtain ⟨a, b, c, d⟩ := h.2 i hi
  rw [Nat.zero_add]
  exact ⟨a, b, d⟩
theorem left_src (xs ys : List El) : (left El.k xs ys).map El.src = left Src.k (xs.map El.src) (ys.map El.src) := by
  unfold left
  rw [List.filter_map]
  congr 1
  refine List.filter_congr fun a _ => ?_
  simp only [Function.comp_def, List.map_map]
  rfl
theorem Jn_sz (xs : List El) : Jn xs = sz (xs.map El.src) := by simp [Jn, sz, Function.comp_def]
theorem union_len {F G : Nat → Nat} {p q : Nat → Src} {n m : Nat} (hp : Rises (ks p) n) (hq : Rises (ks q) m) : (mrg El.k (mkl F p n) (mkl G q m)).length = m + (lf p q n m).length := by
  rw [length_mrg El.k (asc_mkl hp) (asc_mkl hq), mkl_len]
  have := congrArg List.length (left_src (mkl F p n) (mkl G q m))
  rw [List.length_map, mkl_src, mkl_src] at this
  rw [this]; rfl
theorem union_sz {F G : Nat → Nat} {p q : Nat → Src} {n m : Nat} (hp : Rises (ks p) n) (hq : Rises (ks q) m) : Jn (mrg El.k (mkl F p n) (mkl G q m)) = sz (lsrc q m) + sz (lf p q n m) := by
  have h := sum_mrg El.k (fun x => x.src.jl) (asc_mkl (F := F) hp) (asc_mkl (F := G) hq)
  have e1 : Jn (mrg El.k (mkl F p n) (mkl G q m)) = Jn (mkl G q m) + Jn (left El.k (mkl F p n) (mkl G q m)) := h
  rw [e1, Jn_sz, Jn_sz, left_src, mkl_src, mkl_src]; rfl
theorem fine_mrg {xs ys : List El} (hx : ∀ z ∈ xs, z.fine) (hy : ∀ z ∈ ys, z.fine) (ax : Asc El.k xs) (ay : Asc El.k ys) : ∀ z ∈ mrg El.k xs ys, z.fine := fun z hz => by
  rcases (mem_mrg El.k ax ay z).1 hz with h | h
  · exact hy z h
  · exact hx z h.1
theorem fine_mkl {F : Nat → Nat} {p : Nat → Src} {n : Nat} (h : ∀ i, i < n → SumOk (p i).sum) (hf : Fit n p) : ∀ z ∈ mkl F p n, z.fine := fun z hz => by
  obtain ⟨i, hi, rfl⟩ := mem_mkl.1 hz
  exact ⟨h i hi, (hf.2 i hi).2⟩
theorem Fls.below {B : Nat} {w w' : World} {a : Option Addr} {n : Nat} {p : Nat → Src} (h : Fls w a n p) (hb : Below B w w') (hB : w.heap.size ≤ B) : Fls w' a n p := fun hn => by
  obtain ⟨b, o, rfl, hlt, hc⟩ := h hn
  refine ⟨b, o, rfl, Nat.lt_of_lt_of_le hlt hb.size, fun i hi => ?_⟩
  obtain ⟨c0, c1, c2⟩ := hc i hi
  exact ⟨by rw [hb.cell (Nat.lt_of_lt_of_le hlt hB)]; exact c0, by rw [hb.cell (Nat.lt_of_lt_of_le hlt hB)]; exact c1, Below.range hb c2 (Nat.lt_of_lt_of_le hlt hB)⟩

/-- What the merge leaves. -/
def Merged (w : World) (xs ys : List El) (e : Ending) (w' : World) : Prop :=
  Below w.heap.size w w' ∧ e = .returned (.tuple #[.slice (some ⟨w.heap.size, 0, none⟩) (mrg El.k xs ys).length (xs.length + ys.length), .int .i64 (Jn (mrg El.k xs ys))]) ∧
    w.heap.size < w'.heap.size ∧ (∀ i x, (mrg El.k xs ys)[i]? = some x → w'.rangeAt w.heap.size (i * 34) x.cs)

theorem merge18 (va vb : Value) (xs ys : List El) (w : World) (ha : Sl w va xs) (hb : Sl w vb ys) (na : xs.length ≤ 1048576) (nb : ys.length ≤ 1048576)
    (fa : ∀ x ∈ xs, x.fine) (fb : ∀ x ∈ ys, x.fine) (ax : Asc El.k xs) (ay : Asc El.k ys) : Calls Try.prog 18 #[va, vb] w fun e w' => Merged w xs ys e w' := by
  have K := merge29 va vb xs ys w ha hb na nb fa fb
  have hf := fine_mrg fa fb ax ay
  go_enter Try.func18, Try.ntmps18
  go_wp2_with fail
  refine K.mono ?_
  rintro e w' ⟨h1, os, rfl, rfl, h2⟩
  have h3 := owns_range hf h2
  have h4 := (there_own h2).2
  clear h2 K ha hb fa fb
  go_wp2
  go_ret2
  exact ⟨h1, rfl, h4, fun i x hx => by have := h3 i x hx; rwa [Nat.zero_add] at this⟩
end Go.Proofs.Qxb6615042a
