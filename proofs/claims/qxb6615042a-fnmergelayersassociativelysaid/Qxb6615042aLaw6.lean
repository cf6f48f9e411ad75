/- FnMergeLayersAssociatively: the walk. -/
import Derived.Test.Qxb6615042aLaw5
namespace Go.Proofs.Qxb6615042a
open Go.RowKit
set_option linter.unusedSimpArgs false

theorem mrg_le {xs ys : List El} (ax : Asc El.k xs) (ay : Asc El.k ys) : (mrg El.k xs ys).length ≤ xs.length + ys.length := by
  rw [length_mrg El.k ax ay]
  have := List.length_filter_le (fun a => decide (El.k a ∉ ys.map El.k)) xs
  unfold left
  omega
theorem Jn_le : ∀ (xs : List El), (∀ z ∈ xs, z.fine) → Jn xs ≤ xs.length * 1048576
  | [], _ => Nat.le_refl _
  | a :: xs, h => by
    have h1 := Jn_le xs (fun z hz => h z (List.mem_cons_of_mem _ hz))
    have h2 := (h a (List.mem_cons_self ..)).2
    have e : Jn (a :: xs) = a.src.jl + Jn xs := by simp [Jn]
    rw [e, List.length_cons]
    omega
theorem Reads.sl {w : World} {g c : Nat} {M : List El} (h : Reads w g M) (hc : M.length ≤ c) : Sl w (.slice (some ⟨g, 0, none⟩) M.length c) M := by
  refine ⟨some ⟨g, 0, none⟩, c, rfl, hc, fun _ => ⟨g, 0, rfl, h.1, fun i x hx => ?_⟩⟩
  obtain ⟨a, b, d, _⟩ := h.2 i x hx
  rw [Nat.zero_add]
  exact ⟨a, b, d⟩
theorem Reads.fine {w : World} {g : Nat} {M : List El} (h : Reads w g M) : ∀ z ∈ M, z.fine := fun z hz => by
  obtain ⟨i, hi, rfl⟩ := List.getElem_of_mem hz
  exact (h.2 i _ (List.getElem?_eq_getElem hi)).2.2.2.1
theorem reads_mkl {w w' : World} {B n : Nat} {F : Nat → Nat} {p : Nat → Src} (he : Encs w' B n F p) (hb : Below w.heap.size w w') (h : ∀ i, i < n → SumOk (p i).sum ∧ Bys w (p i).ja (p i).jl) (hf : Fit n p) : Reads w' B (mkl F p n) := by
  refine ⟨he.1, fun i x hx => ?_⟩
  obtain ⟨hi, rfl⟩ := mkl_get hx
  obtain ⟨a, b, _, d⟩ := he.2 i hi
  exact ⟨a, b, d, ⟨(h i hi).1, (hf.2 i hi).2⟩, (h i hi).2.below hb (Nat.le_refl _)⟩
theorem reads_mrg {w w' : World} {A B g : Nat} {xs ys : List El} (hx : Reads w A xs) (hy : Reads w B ys) (ax : Asc El.k xs) (ay : Asc El.k ys) (hb : Below w.heap.size w w') (hg : g < w'.heap.size)
    (hr : ∀ i x, (mrg El.k xs ys)[i]? = some x → w'.rangeAt g (i * 34) x.cs) : Reads w' g (mrg El.k xs ys) := by
  refine ⟨hg, fun i x h => ⟨hr i x h, ?_⟩⟩
  have : ∃ (A : Nat) (zs : List El) (j : Nat), Reads w A zs ∧ zs[j]? = some x := by
    rcases (mem_mrg El.k ax ay x).1 (List.mem_of_getElem? h) with h | ⟨h, _⟩
    · obtain ⟨j, hj, rfl⟩ := List.getElem_of_mem h
      exact ⟨B, ys, j, hy, List.getElem?_eq_getElem hj⟩
    · obtain ⟨j, hj, rfl⟩ := List.getElem_of_mem h
      exact ⟨A, xs, j, hx, List.getElem?_eq_getElem hj⟩
  obtain ⟨A', zs, j, hz, hj⟩ := this
  exact ((hz.below hb).2 j x hj).2

/-- Those of the first that stand in neither of the others. -/
def lf3 (p q r : Nat → Src) (k m n : Nat) : List Src := (lsrc p k).filter fun a => decide (a.k ∉ (lsrc q m).map Src.k) && decide (a.k ∉ (lsrc r n).map Src.k)
theorem mem_keys {q : Nat → Src} {m j : Nat} {x : List UInt8} (hj : j < m) (e : ks q j = x) : x ∈ (lsrc q m).map Src.k :=
  List.mem_map.2 ⟨q j, List.mem_map.2 ⟨j, List.mem_range.2 hj, rfl⟩, e⟩
theorem not_mem_keys {q : Nat → Src} {m : Nat} {x : List UInt8} (h : ∀ j, j < m → ks q j ≠ x) : x ∉ (lsrc q m).map Src.k := fun hm => by
  obtain ⟨y, hy, e⟩ := List.mem_map.1 hm
  obtain ⟨j, hj, rfl⟩ := List.mem_map.1 hy
  exact h j (List.mem_range.1 hj) e
theorem lf3_in {p q r : Nat → Src} {k m n : Nat} (h : (p k).key.toList ∈ (lsrc q m).map Src.k ∨ (p k).key.toList ∈ (lsrc r n).map Src.k) : lf3 p q r (k + 1) m n = lf3 p q r k m n := by
  unfold lf3
  rw [lsrc_succ, List.filter_append, List.filter_cons_of_neg, List.filter_nil, List.append_nil]
  intro hc
  simp only [Bool.and_eq_true, decide_eq_true_eq] at hc
  exact h.elim hc.1 hc.2
theorem lf3_out {p q r : Nat → Src} {k m n : Nat} (h1 : (p k).key.toList ∉ (lsrc q m).map Src.k) (h2 : (p k).key.toList ∉ (lsrc r n).map Src.k) : lf3 p q r (k + 1) m n = lf3 p q r k m n ++ [p k] := by
  unfold lf3
  rw [lsrc_succ, List.filter_append, List.filter_cons_of_pos, List.filter_nil]
  simp only [Bool.and_eq_true, decide_eq_true_eq]
  exact ⟨h1, h2⟩
theorem left3 {F G H : Nat → Nat} {p q r : Nat → Src} {n m l : Nat} (hq : Rises (ks q) m) (hr : Rises (ks r) l) :
    (left El.k (mkl F p n) (mrg El.k (mkl G q m) (mkl H r l))).map El.src = lf3 p q r n m l := by
  rw [left_mrg El.k (asc_mkl hq) (asc_mkl hr)]
  unfold lf3
  rw [← mkl_src F p n, ← mkl_src G q m, ← mkl_src H r l, List.filter_map]
  congr 1
  refine List.filter_congr fun a _ => ?_
  simp only [Function.comp_def, List.map_map]
  rfl
theorem len3 {F G H : Nat → Nat} {p q r : Nat → Src} {n m l : Nat} (hp : Rises (ks p) n) (hq : Rises (ks q) m) (hr : Rises (ks r) l) :
    (mrg El.k (mkl F p n) (mrg El.k (mkl G q m) (mkl H r l))).length = (mrg El.k (mkl G q m) (mkl H r l)).length + (lf3 p q r n m l).length := by
  rw [length_mrg El.k (asc_mkl hp) (asc_mrg El.k _ _ (asc_mkl hq) (asc_mkl hr)), ← left3 (F := F) (G := G) (H := H) hq hr, List.length_map]
theorem sz3 {F G H : Nat → Nat} {p q r : Nat → Src} {n m l : Nat} (hp : Rises (ks p) n) (hq : Rises (ks q) m) (hr : Rises (ks r) l) :
    Jn (mrg El.k (mkl F p n) (mrg El.k (mkl G q m) (mkl H r l))) = Jn (mrg El.k (mkl G q m) (mkl H r l)) + sz (lf3 p q r n m l) := by
  have h := sum_mrg El.k (fun x => x.src.jl) (asc_mkl (F := F) hp) (asc_mrg El.k _ _ (asc_mkl (F := G) hq) (asc_mkl (F := H) hr))
  rw [← left3 (F := F) (G := G) (H := H) hq hr, ← Jn_sz]
  exact h

set_option maxHeartbeats 8000000 in
set_option maxRecDepth 100000 in
theorem law6 (a0 a1 a2 : Option Addr) (n0 c0 n1 c1 n2 c2 : Nat) (p q r : Nat → Src) (w : World) (hn0 : n0 ≤ maxLen) (hp0 : ∀ i, i < n0 → (p i).key.size ≤ maxLen ∧ (p i).jl ≤ maxLen) (hs0 : Fls w a0 n0 p) (ho0 : ∀ i, i < n0 → SumOk (p i).sum ∧ Bys w (p i).ja (p i).jl) (hn1 : n1 ≤ maxLen) (hp1 : ∀ i, i < n1 → (q i).key.size ≤ maxLen ∧ (q i).jl ≤ maxLen) (hs1 : Fls w a1 n1 q) (ho1 : ∀ i, i < n1 → SumOk (q i).sum ∧ Bys w (q i).ja (q i).jl) (hn2 : n2 ≤ maxLen) (hp2 : ∀ i, i < n2 → (r i).key.size ≤ maxLen ∧ (r i).jl ≤ maxLen) (hs2 : Fls w a2 n2 r) (ho2 : ∀ i, i < n2 → SumOk (r i).sum ∧ Bys w (r i).ja (r i).jl) :
    Calls Try.prog 6 #[.slice a0 n0 c0, .slice a1 n1 c1, .slice a2 n2 c2] w fun e w' => Done w e w' := by
  have P0 := zz23_any a0 n0 c0 p a1 n1 c1 q a2 n2 c2 r w hn0 hp0 hs0 hn1 hp1 hs1 hn2 hp2 hs2
  unfold maxLen at hn0 hn1 hn2
  go_enter Try.func6, Try.ntmps6
  go_wp2_with fail
  refine P0.mono ?_
  rintro e w' ⟨⟨b, rfl, hb⟩, rfl⟩
  clear P0 hp0 hp1 hp2
  cases b
  · go_wp2
    go_ret
    exact ⟨rfl, Below.refl _ _⟩
  obtain ⟨fit0, fit1, fit2⟩ := hb rfl
  clear hb
  by_cases g0 : (65536 : Int) < (n0 : Int)
  · go_wp2
    go_ret
    exact ⟨rfl, Below.refl _ _⟩
  by_cases g1 : (65536 : Int) < (n1 : Int)
  · go_wp2
    go_ret
    exact ⟨rfl, Below.refl _ _⟩
  by_cases g2 : (65536 : Int) < (n2 : Int)
  · go_wp2
    go_ret
    exact ⟨rfl, Below.refl _ _⟩
  go_wp2_with fail
  refine (fb15_any a0 n0 c0 0 p w fit0.1 (Int.le_refl _) (by omega) fit0.2 (hs0.below (Below.refl _ _) (Nat.le_refl _))).mono ?_
  rintro e wa ⟨⟨m0, rfl, l0, u0⟩, d0, hw⟩
  have bwa : Below w.heap.size w wa := by rw [hw]; exact Below.drewN (Below.refl _ _) _
  clear hw
  by_cases k0 : (1048576 : Int) < m0
  · go_wp2
    go_ret
    exact ⟨rfl, bwa⟩
  go_wp2_with fail
  refine (fb15_any a1 n1 c1 m0 q wa fit1.1 l0 (by omega) fit1.2 (hs1.below bwa (Nat.le_refl _))).mono ?_
  rintro e wb ⟨⟨m1, rfl, l1, u1⟩, d1, hw⟩
  have bwb : Below w.heap.size w wb := by rw [hw]; exact Below.drewN bwa _
  clear hw
  by_cases k1 : (1048576 : Int) < m1
  · go_wp2
    go_ret
    exact ⟨rfl, bwb⟩
  go_wp2_with fail
  refine (fb15_any a2 n2 c2 m1 r wb fit2.1 l1 (by omega) fit2.2 (hs2.below bwb (Nat.le_refl _))).mono ?_
  rintro e wc ⟨⟨m2, rfl, l2, u2⟩, d2, hw⟩
  have bwc : Below w.heap.size w wc := by rw [hw]; exact Below.drewN bwb _
  clear hw
  by_cases k2 : (1048576 : Int) < m2
  · go_wp2
    go_ret
    exact ⟨rfl, bwc⟩
  go_wp2_with fail
  clear l0 u0 l1 u1 l2 u2 k0 k1 k2
  refine (ord16_any a0 n0 c0 p wc fit0.1 (hs0.below bwc (Nat.le_refl _))).mono ?_
  rintro e wd ⟨⟨b, rfl, hb⟩, d0', hw⟩
  have bwd : Below w.heap.size w wd := by rw [hw]; exact Below.drewN bwc _
  clear hw
  cases b
  · go_wp2
    go_ret
    exact ⟨rfl, bwd⟩
  have R0 := hb rfl
  clear hb
  go_wp2_with fail
  refine (ord16_any a1 n1 c1 q wd fit1.1 (hs1.below bwd (Nat.le_refl _))).mono ?_
  rintro e we ⟨⟨b, rfl, hb⟩, d1', hw⟩
  have bwe : Below w.heap.size w we := by rw [hw]; exact Below.drewN bwd _
  clear hw
  cases b
  · go_wp2
    go_ret
    exact ⟨rfl, bwe⟩
  have R1 := hb rfl
  clear hb
  go_wp2_with fail
  refine (ord16_any a2 n2 c2 r we fit2.1 (hs2.below bwe (Nat.le_refl _))).mono ?_
  rintro e w3 ⟨⟨b, rfl, hb⟩, d2', hw⟩
  have bw3 : Below w.heap.size w w3 := by rw [hw]; exact Below.drewN bwe _
  clear hw
  cases b
  · go_wp2
    go_ret
    exact ⟨rfl, bw3⟩
  have R2 := hb rfl
  clear hb
  clear bwa bwb bwc bwd bwe
  have z3 := bw3.size
  go_wp2_with fail
  refine (build17 a0 n0 c0 p w3 (by omega) (hs0.below bw3 (Nat.le_refl _)) (fun i h => (ho0 i h).1)).mono ?_
  rintro e w4 ⟨sw4, rfl, F, eF⟩
  have z4 := sw4.size
  have bw4 := bw3.trans (sw4.mono (by omega))
  have qF := reads_mkl eF bw4 ho0 fit0
  clear eF
  go_wp2_with fail
  refine (build17 a1 n1 c1 q w4 (by omega) (hs1.below bw4 (Nat.le_refl _)) (fun i h => (ho1 i h).1)).mono ?_
  rintro e w5 ⟨sw5, rfl, G, eG⟩
  have z5 := sw5.size
  have bw5 := bw4.trans (sw5.mono (by omega))
  have qG := reads_mkl eG bw5 ho1 fit1
  clear eG
  go_wp2_with fail
  refine (build17 a2 n2 c2 r w5 (by omega) (hs2.below bw5 (Nat.le_refl _)) (fun i h => (ho2 i h).1)).mono ?_
  rintro e w6 ⟨sw6, rfl, H, eH⟩
  have z6 := sw6.size
  have bw6 := bw5.trans (sw6.mono (by omega))
  have qH := reads_mkl eH bw6 ho2 fit2
  clear eH
  have qF6 := (qF.below sw5).below sw6
  have qG6 := qG.below sw6
  have A0 := asc_mkl (F := F) R0
  have A1 := asc_mkl (F := G) R1
  have A2 := asc_mkl (F := H) R2
  have L0 := mkl_len F p n0
  have L1 := mkl_len G q n1
  have L2 := mkl_len H r n2
  have pk : Shut (((mrg El.k (mkl F p n0) (mkl G q n1)).length = n1 + (lf p q n0 n1).length ∧ Jn (mrg El.k (mkl F p n0) (mkl G q n1)) = sz (lsrc q n1) + sz (lf p q n0 n1)) ∧ ((mrg El.k (mkl G q n1) (mkl H r n2)).length = n2 + (lf q r n1 n2).length ∧ Jn (mrg El.k (mkl G q n1) (mkl H r n2)) = sz (lsrc r n2) + sz (lf q r n1 n2))) :=
    ⟨⟨union_len R0 R1, union_sz R0 R1⟩, ⟨union_len R1 R2, union_sz R1 R2⟩⟩
  have pk3 : Shut ((mrg El.k (mkl F p n0) (mrg El.k (mkl G q n1) (mkl H r n2))).length = (mrg El.k (mkl G q n1) (mkl H r n2)).length + (lf3 p q r n0 n1 n2).length ∧ Jn (mrg El.k (mkl F p n0) (mrg El.k (mkl G q n1) (mkl H r n2))) = Jn (mrg El.k (mkl G q n1) (mkl H r n2)) + sz (lf3 p q r n0 n1 n2)) :=
    ⟨len3 R0 R1 R2, sz3 R0 R1 R2⟩
  clear qF qG
  generalize mkl F p n0 = X at *
  generalize mkl G q n1 = Y at *
  generalize mkl H r n2 = Z at *
  subst L0 L1 L2
  have sX := qF6.sl (c := X.length) (Nat.le_refl _)
  have sY := qG6.sl (c := Y.length) (Nat.le_refl _)
  have A01 := asc_mrg El.k X Y A0 A1
  have A12 := asc_mrg El.k Y Z A1 A2
  have le01 := mrg_le A0 A1
  have le12 := mrg_le A1 A2
  have le3 := mrg_le A01 A2
  have le3' := mrg_le A0 A12
  go_wp2_with fail
  refine (merge18 _ _ X Y w6 sX sY (by omega) (by omega) qF6.fine qG6.fine A0 A1).mono ?_
  rintro e w7 ⟨s7, rfl, z7, r7⟩
  have qXY := reads_mrg qF6 qG6 A0 A1 s7 z7 r7
  have qX7 := qF6.below s7
  have qY7 := qG6.below s7
  have qZ7 := qH.below s7
  clear sX sY r7 qF6 qG6 qH
  go_wp2_with fail
  refine (merge18 _ _ (mrg El.k X Y) Z w7 (qXY.sl le01) (qZ7.sl (Nat.le_refl _)) (by omega) (by omega) qXY.fine qZ7.fine A01 A2).mono ?_
  rintro e w8 ⟨s8, rfl, z8, r8⟩
  have q3 := reads_mrg qXY qZ7 A01 A2 s8 z8 r8
  have qX8 := qX7.below s8
  have qY8 := qY7.below s8
  have qZ8 := qZ7.below s8
  clear r8 qXY qX7 qY7 qZ7
  go_wp2_with fail
  refine (merge18 _ _ Y Z w8 (qY8.sl (Nat.le_refl _)) (qZ8.sl (Nat.le_refl _)) (by omega) (by omega) qY8.fine qZ8.fine A1 A2).mono ?_
  rintro e w9 ⟨s9, rfl, z9, r9⟩
  have qYZ := reads_mrg qY8 qZ8 A1 A2 s9 z9 r9
  have qX9 := qX8.below s9
  have q39 := q3.below s9
  clear r9 qX8 qY8 qZ8 q3
  go_wp2_with fail
  refine (merge18 _ _ X (mrg El.k Y Z) w9 (qX9.sl (Nat.le_refl _)) (qYZ.sl le12) (by omega) (by omega) qX9.fine qYZ.fine A0 A12).mono ?_
  rintro e w10 ⟨s10, rfl, z10, r10⟩
  have q4 := reads_mrg qX9 qYZ A0 A12 s10 z10 r10
  have q3 := q39.below s10
  have jYZ := Jn_le _ qYZ.fine
  have s7z := s7.size
  have s8z := s8.size
  have s9z := s9.size
  have s10z := s10.size
  have bz := bw6.trans ((s7.mono (by omega)).trans ((s8.mono (by omega)).trans ((s9.mono (by omega)).trans (s10.mono (by omega)))))
  clear r10 qX9 qYZ q39 s7 s8 s9 s10 z7 z8 z9 z10 s7z s8z s9z s10z sw4 sw5 sw6 bw3 bw4 bw5 bw6
  have h0 := hs0.below bz (Nat.le_refl _)
  have h1 := hs1.below bz (Nat.le_refl _)
  have h2 := hs2.below bz (Nat.le_refl _)
  obtain ⟨⟨hl01, hz01⟩, ⟨hl12, hz12⟩⟩ := pk.out
  have O1 := over19_any a0 a1 X.length c0 Y.length c1 p q w10 (by omega) (by omega) (fun i h => (fit0.2 i h).2) (fun i h => (fit1.2 i h).2) h0 h1 R1
  have O2 := over19_any a1 a2 Y.length c1 Z.length c2 q r w10 (by omega) (by omega) (fun i h => (fit1.2 i h).2) (fun i h => (fit2.2 i h).2) h1 h2 R2
  rw [← hl01, ← hz01] at O1
  rw [← hl12, ← hz12] at O2
  have fj : ∀ i, i < X.length → (p i).jl ≤ 1048576 := fun i h => (fit0.2 i h).2
  have fit1' := fit1.1
  have fit2' := fit2.1
  rw [mrg_assoc El.k A0 A1 A2] at q3 le3
  rw [mrg_assoc El.k A0 A1 A2]
  clear pk hl01 hz01 hl12 hz12 fit0 fit1 fit2 ho0 ho1 ho2 hs0 hs1 hs2 A0 A1 A2 A01 A12 R0 z3 z4 z5 z6
  generalize mrg El.k X (mrg El.k Y Z) = M at *
  generalize mrg El.k Y Z = N at *
  generalize mrg El.k X Y = M1 at *
  generalize w6.heap.size = g1 at *
  generalize w7.heap.size = g2 at *
  generalize w8.heap.size = g3 at *
  generalize w9.heap.size = g4 at *
  generalize w5.heap.size = B2 at *
  generalize w4.heap.size = B1 at *
  generalize w3.heap.size = B0 at *
  go_wp2_with fail
  refine O1.mono ?_
  rintro e wx ⟨rfl, rfl⟩
  clear O1
  go_wp2_with fail
  refine O2.mono ?_
  rintro e wx ⟨rfl, rfl⟩
  clear O2
  go_wp2_with fail
  go_loop [23, 24, 25] (fun u v i => ∃ k : Nat, k ≤ X.length ∧ u = .int .i64 ((N.length + (lf3 p q r k Y.length Z.length).length : Nat) : Int) ∧ v = .int .i64 ((Jn N + sz (lf3 p q r k Y.length Z.length) : Nat) : Int) ∧ i = .int .i64 k ∧ (lf3 p q r k Y.length Z.length).length ≤ k ∧ sz (lf3 p q r k Y.length Z.length) ≤ k * 1048576) (fun _ _ i => X.length - (intOf i).toNat)
  case atStart => exact ⟨0, Nat.zero_le _, rfl, rfl, rfl, Nat.le_refl _, Nat.le_refl _⟩
  case round =>
    obtain ⟨k, hk, rfl, rfl, rfl, hb2, hb3⟩ := hrel
    by_cases hlt : k < X.length
    · obtain ⟨b, o, rfl, hb, hc⟩ := h0 (by omega)
      obtain ⟨d0, d1, _⟩ := hc k hlt
      have p1 := fj k hlt
      clear hc
      go_wp2_with fail
      refine (find21_any a1 Y.length c1 (p k).key q w10 fit1' h1 R1).mono ?_
      rintro e wx ⟨hF1, rfl⟩
      rcases hF1 with ⟨rfl, hno⟩ | ⟨j, hj, rfl, hyes⟩
      · go_wp2_with fail
        refine (find21_any a2 Z.length c2 (p k).key r w10 fit2' h2 R2).mono ?_
        rintro e wx ⟨hF2, rfl⟩
        rcases hF2 with ⟨rfl, hno2⟩ | ⟨j, hj, rfl, hyes⟩
        · have e1 := lf3_out (not_mem_keys hno) (not_mem_keys hno2)
          have e2 : (lf3 p q r (k + 1) Y.length Z.length).length = (lf3 p q r k Y.length Z.length).length + 1 := by rw [e1]; simp
          have e3 : sz (lf3 p q r (k + 1) Y.length Z.length) = sz (lf3 p q r k Y.length Z.length) + (p k).jl := by rw [e1, sz_append, sz_one]
          go_wp2
          go_round
          case rel => exact ⟨k + 1, by omega, by rw [e2]; go_num, by rw [e3]; go_num, by go_num, by omega, by omega⟩
          case measure => simp [intOf]; omega
        · have e1 := lf3_in (q := q) (m := Y.length) (Or.inr (mem_keys hj hyes))
          go_wp2
          go_round
          case rel => exact ⟨k + 1, hlt, by rw [e1, Int.natCast_add], by rw [e1, Int.natCast_add], by go_num, by rw [e1]; exact Nat.le_succ_of_le hb2, by rw [e1]; exact Nat.le_trans hb3 (Nat.mul_le_mul_right _ (Nat.le_succ k))⟩
          case measure => simp [intOf]; omega
      · have e1 := lf3_in (r := r) (n := Z.length) (Or.inl (mem_keys hj hyes))
        go_wp2
        go_round
        case rel => exact ⟨k + 1, hlt, by rw [e1, Int.natCast_add], by rw [e1, Int.natCast_add], by go_num, by rw [e1]; exact Nat.le_succ_of_le hb2, by rw [e1]; exact Nat.le_trans hb3 (Nat.mul_le_mul_right _ (Nat.le_succ k))⟩
        case measure => simp [intOf]; omega
    · obtain rfl : k = X.length := by omega
      obtain ⟨hl3, hz3⟩ := pk3.out
      rw [← hl3, ← hz3]
      clear hl3 hz3 pk3
      go_wp2
      go_loopw [26] (fun i wr => ∃ k : Nat, i = .int .i64 k ∧ k ≤ M.length ∧ Below w10.heap.size w10 wr) (fun i _ => M.length - (intOf i).toNat)
      case atStart => exact ⟨0, rfl, Nat.zero_le _, Below.refl _ _⟩
      case round =>
        clear hb2 hb3 hk hlt h0 h1 h2 fj jYZ R1 R2
        obtain ⟨k, rfl, hk, bW⟩ := hrel
        by_cases hlt : k < M.length
        · obtain ⟨x, hx⟩ : ∃ x, M[k]? = some x := ⟨_, List.getElem?_eq_getElem hlt⟩
          obtain ⟨r3, _, _, fx, by3⟩ := (q3.below bW).2 k x hx
          obtain ⟨r4, _, _, _, _⟩ := (q4.below bW).2 k x hx
          have z3 := (q3.below bW).1
          have z4 := (q4.below bW).1
          have i0 : (k : Int) < (M.length : Int) := by omega
          go_wp2_with fail
          refine wp_region_held_drew (S := fun V : World => V.rangeAt g2 (k * 34) x.cs ∧ V.rangeAt g4 (k * 34) x.cs) (by kernel_rfl) ⟨by simpa using r3, by simpa using r4⟩ (fun hH => ?_)
          refine wpAnyH_take (i := 0) (oi := { dst := some 196, op := .move (.tmp 13), type := _, pos := _, after := _, guard := none }) (v := .slice (some ⟨g2, 0, none⟩) M.length (M1.length + Z.length)) rfl (by kernel_rfl) (by kernel_rfl) (by kernel_rfl) (fun _ _ _ h => h) (Or.inl ⟨by rfl, fun X hX => by go_simp⟩) hH ?_
          simp only [Act.put, List.setIfInBounds_toArray, List.set_cons_succ, List.set_cons_zero]
          refine wpAnyH_take (i := 1) (oi := { dst := some 197, op := .move (.tmp 26), type := _, pos := _, after := _, guard := none }) (v := .int .i64 k) rfl (by kernel_rfl) (by kernel_rfl) (by kernel_rfl) (fun _ _ _ h => h) (Or.inl ⟨by rfl, fun X hX => by go_simp⟩) hH ?_
          simp only [Act.put, List.setIfInBounds_toArray, List.set_cons_succ, List.set_cons_zero]
          refine wpAnyH_take (i := 2) (oi := { dst := some 198, op := .indexAddr 36 (.tmp 196) (.tmp 197), type := _, pos := _, after := _, guard := none }) (v := .pointer (some ⟨g2, k * 34, none⟩)) rfl (by kernel_rfl) (by kernel_rfl) (by kernel_rfl) (fun _ _ _ h => h) (Or.inl ⟨by rfl, fun X hX => by go_simp⟩) hH ?_
          simp only [Act.put, List.setIfInBounds_toArray, List.set_cons_succ, List.set_cons_zero]
          refine wpAnyH_take (i := 3) (oi := { dst := some 199, op := .load 48 (.tmp 198), type := _, pos := _, after := _, guard := none }) (v := .agg x.cs.toArray) rfl (by kernel_rfl) (by kernel_rfl) (by kernel_rfl) (fun _ _ _ h => h) (yieldsIf_load_mid (by rfl) 48 (.tmp 198) rfl g2 (k * 34) rfl x.cs _ (fun X hX => hX.1) Try.underlying48 rfl (by rw [info48, cs_len fx])) hH ?_
          simp only [Act.put, List.setIfInBounds_toArray, List.set_cons_succ, List.set_cons_zero]
          refine wpAnyH_take (i := 4) (oi := { dst := some 200, op := .move (.tmp 17), type := _, pos := _, after := _, guard := none }) (v := .slice (some ⟨g4, 0, none⟩) M.length (X.length + N.length)) rfl (by kernel_rfl) (by kernel_rfl) (by kernel_rfl) (fun _ _ _ h => h) (Or.inl ⟨by rfl, fun X hX => by go_simp⟩) hH ?_
          simp only [Act.put, List.setIfInBounds_toArray, List.set_cons_succ, List.set_cons_zero]
          refine wpAnyH_take (i := 5) (oi := { dst := some 201, op := .move (.tmp 26), type := _, pos := _, after := _, guard := none }) (v := .int .i64 k) rfl (by kernel_rfl) (by kernel_rfl) (by kernel_rfl) (fun _ _ _ h => h) (Or.inl ⟨by rfl, fun X hX => by go_simp⟩) hH ?_
          simp only [Act.put, List.setIfInBounds_toArray, List.set_cons_succ, List.set_cons_zero]
          refine wpAnyH_take (i := 6) (oi := { dst := some 202, op := .indexAddr 36 (.tmp 200) (.tmp 201), type := _, pos := _, after := _, guard := none }) (v := .pointer (some ⟨g4, k * 34, none⟩)) rfl (by kernel_rfl) (by kernel_rfl) (by kernel_rfl) (fun _ _ _ h => h) (Or.inl ⟨by rfl, fun X hX => by go_simp⟩) hH ?_
          simp only [Act.put, List.setIfInBounds_toArray, List.set_cons_succ, List.set_cons_zero]
          refine wpAnyH_take (i := 7) (oi := { dst := some 203, op := .load 48 (.tmp 202), type := _, pos := _, after := _, guard := none }) (v := .agg x.cs.toArray) rfl (by kernel_rfl) (by kernel_rfl) (by kernel_rfl) (fun _ _ _ h => h) (yieldsIf_load_mid (by rfl) 48 (.tmp 202) rfl g4 (k * 34) rfl x.cs _ (fun X hX => hX.2) Try.underlying48 rfl (by rw [info48, cs_len fx])) hH ?_
          simp only [Act.put, List.setIfInBounds_toArray, List.set_cons_succ, List.set_cons_zero]
          refine wpAnyH_ready (rs := [8]) (by kernel_rfl) (by simp) ?_
          refine AllReadyH.cons (o := { dst := some 204, op := .call { callee := .value (.func 22), args := #[.tmp 199, .tmp 203], argTypes := #[48, 48] }, type := _, pos := _, after := _, guard := none }) rfl (fun K hK => ?_) AllReadyH.nil
          go_simp
          refine (same22 x.fp x.src wr.drew fx.1 fx.2 (by3.below (Below.refl _ _).drew (Nat.le_refl _))).mono ?_
          rintro e V ⟨rfl, bV⟩
          have bV' : Below wr.heap.size wr V := ⟨bV.os, bV.tape, bV.output, bV.size, bV.block⟩
          refine hK.out _ _ ⟨Below.range bV' r3 z3, Below.range bV' r4 z4⟩ (fun hH => ?_)
          refine wpAnyH_take (i := 9) (oi := { dst := some 205, op := .unOp .not 4 (.tmp 204), type := _, pos := _, after := _, guard := none }) (v := .bool false) rfl (by kernel_rfl) (by kernel_rfl) (by kernel_rfl) (fun _ _ _ h => h) (Or.inl ⟨by rfl, fun X hX => by go_simp⟩) hH ?_
          simp only [Act.put, List.setIfInBounds_toArray, List.set_cons_succ, List.set_cons_zero]
          refine wpAnyH_done (by kernel_rfl) ?_ _
          clear hK K hH
          go_wp2
          go_roundw
          case rel => exact ⟨k + 1, by go_num, hlt, bW.trans (bV'.mono bW.size)⟩
          case measure => simp [intOf]; omega
        · obtain rfl : k = M.length := by omega
          go_wp2
          go_ret
          exact ⟨rfl, bz.trans (bW.mono bz.size)⟩
end Go.Proofs.Qxb6615042a
