/- FnMergeIsTheKeyOrderedUnionWithBroughtWinning: the walk. -/
import Derived.Test.Qxb6615042aUnion
namespace Go.Proofs.Qxb6615042a
open Go.RowKit
set_option linter.unusedSimpArgs false

/-- The answer of the law, the memory as it was. -/
def Done (w : World) (e : Ending) (w' : World) : Prop := e = .returned (.bool true) ∧ Below w.heap.size w w'

/-- What the loop reads of the merged flags. -/
def Reads (w : World) (g : Nat) (M : List El) : Prop :=
  g < w.heap.size ∧ ∀ i x, M[i]? = some x → w.rangeAt g (i * 34) x.cs ∧ w.cell? ⟨x.fp, 0, none⟩ = some (.string x.src.key) ∧ x.fp < w.heap.size ∧ x.fine ∧ Bys w x.src.ja x.src.jl
theorem Reads.below {w w' : World} {g : Nat} {M : List El} (h : Reads w g M) (hb : Below w.heap.size w w') : Reads w' g M := by
  refine ⟨Nat.lt_of_lt_of_le h.1 hb.size, fun i x hx => ?_⟩
  obtain ⟨h1, h2, h3, h4, h5⟩ := h.2 i x hx
  exact ⟨Below.range hb h1 h.1, by rw [hb.cell h3]; exact h2, Nat.lt_of_lt_of_le h3 hb.size, h4, h5.below hb (Nat.le_refl _)⟩
/-- What the law asks of the merged flags. -/
structure Joins (F G : Nat → Nat) (p q : Nat → Src) (n m : Nat) (M : List El) : Prop where
  asc : ∀ (i : Nat) (x y : El), M[i]? = some x → M[i + 1]? = some y → Op.bytesLess x.src.key.toList y.src.key.toList = true
  won : ∀ (i : Nat) (x : El) (j : Nat), M[i]? = some x → j < m → ks q j = x.src.key.toList → x = ⟨G j, q j⟩
  lost : ∀ (i : Nat) (x : El), M[i]? = some x → (∀ j, j < m → ks q j ≠ x.src.key.toList) → ∃ j, j < n ∧ ks p j = x.src.key.toList
  kept : ∀ (i : Nat) (x : El) (j : Nat), M[i]? = some x → (∀ j, j < m → ks q j ≠ x.src.key.toList) → j < n → ks p j = x.src.key.toList → x = ⟨F j, p j⟩
theorem union_of {F G : Nat → Nat} {p q : Nat → Src} {n m : Nat} (hp : Rises (ks p) n) (hq : Rises (ks q) m) : Joins F G p q n m (mrg El.k (mkl F p n) (mkl G q m)) := by
  have ax := asc_mkl (F := F) hp
  have ay := asc_mkl (F := G) hq
  have mem := fun x => mem_mrg El.k ax ay x
  have am := asc_mrg El.k _ _ ax ay
  have inq : ∀ x ∈ mkl G q m, ∃ j, j < m ∧ ks q j = x.src.key.toList := fun x hx => by
    obtain ⟨j, hj, rfl⟩ := mem_mkl.1 hx
    exact ⟨j, hj, rfl⟩
  have out : ∀ x, x ∈ mrg El.k (mkl F p n) (mkl G q m) → (∀ j, j < m → ks q j ≠ x.src.key.toList) → x ∈ mkl F p n := fun x hx hno => by
    rcases (mem x).1 hx with h | h
    · obtain ⟨j, hj, e⟩ := inq x h
      exact absurd e (hno j hj)
    · exact h.1
  refine ⟨fun i x y hx hy => ?_, fun i x j hx hj e => ?_, fun i x hx hno => ?_, fun i x j hx hno hj e => ?_⟩
  · obtain ⟨h1, rfl⟩ := List.getElem?_eq_some_iff.1 hx
    obtain ⟨h2, rfl⟩ := List.getElem?_eq_some_iff.1 hy
    exact (List.pairwise_iff_getElem.1 am) i (i + 1) h1 h2 (Nat.lt_succ_self i)
  · have hy : (⟨G j, q j⟩ : El) ∈ mkl G q m := mem_mkl.2 ⟨j, hj, rfl⟩
    rcases (mem x).1 (List.mem_of_getElem? hx) with h | h
    · exact key_inj El.k ay h hy e.symm
    · exact absurd (List.mem_map.2 ⟨⟨G j, q j⟩, hy, e⟩) h.2
  · obtain ⟨j, hj, rfl⟩ := mem_mkl.1 (out x (List.mem_of_getElem? hx) hno)
    exact ⟨j, hj, rfl⟩
  · exact key_inj El.k ax (out x (List.mem_of_getElem? hx) hno) (mem_mkl.2 ⟨j, hj, rfl⟩) e.symm
theorem reads_of {w w6 : World} {B C g : Nat} {F G : Nat → Nat} {p q : Nat → Src} {n m : Nat} (hp : Rises (ks p) n) (hq : Rises (ks q) m) (bW : Below w.heap.size w w6)
    (h0 : ∀ i, i < n → SumOk (p i).sum ∧ Bys w (p i).ja (p i).jl) (h1 : ∀ i, i < m → SumOk (q i).sum ∧ Bys w (q i).ja (q i).jl) (f0 : Fit n p) (f1 : Fit m q)
    (e0 : Encs w6 B n F p) (e1 : Encs w6 C m G q) (hg : g < w6.heap.size) (hr : ∀ i x, (mrg El.k (mkl F p n) (mkl G q m))[i]? = some x → w6.rangeAt g (i * 34) x.cs) : Reads w6 g (mrg El.k (mkl F p n) (mkl G q m)) := by
  refine ⟨hg, fun i x hx => ⟨hr i x hx, ?_⟩⟩
  rcases (mem_mrg El.k (asc_mkl hp) (asc_mkl hq) x).1 (List.mem_of_getElem? hx) with h | ⟨h, _⟩
  · obtain ⟨j, hj, rfl⟩ := mem_mkl.1 h
    obtain ⟨_, c, _, d⟩ := e1.2 j hj
    exact ⟨c, d, ⟨(h1 j hj).1, (f1.2 j hj).2⟩, (h1 j hj).2.below bW (Nat.le_refl _)⟩
  · obtain ⟨j, hj, rfl⟩ := mem_mkl.1 h
    obtain ⟨_, c, _, d⟩ := e0.2 j hj
    exact ⟨c, d, ⟨(h0 j hj).1, (f0.2 j hj).2⟩, (h0 j hj).2.below bW (Nat.le_refl _)⟩
theorem union_le {F G : Nat → Nat} {p q : Nat → Src} {n m : Nat} (hp : Rises (ks p) n) (hq : Rises (ks q) m) : (mrg El.k (mkl F p n) (mkl G q m)).length ≤ n + m := by
  rw [length_mrg El.k (asc_mkl hp) (asc_mkl hq), mkl_len]
  have := List.length_filter_le (fun a => decide (El.k a ∉ (mkl G q m).map El.k)) (mkl F p n)
  rw [mkl_len] at this
  unfold left
  omega

set_option maxHeartbeats 8000000 in
set_option maxRecDepth 100000 in
theorem law5 (a0 a1 : Option Addr) (n0 c0 n1 c1 : Nat) (p q : Nat → Src) (w : World) (hn0 : n0 ≤ maxLen) (hn1 : n1 ≤ maxLen)
    (hp : ∀ i, i < n0 → (p i).key.size ≤ maxLen ∧ (p i).jl ≤ maxLen) (hq : ∀ i, i < n1 → (q i).key.size ≤ maxLen ∧ (q i).jl ≤ maxLen) (hs0 : Fls w a0 n0 p) (hs1 : Fls w a1 n1 q)
    (ho0 : ∀ i, i < n0 → SumOk (p i).sum ∧ Bys w (p i).ja (p i).jl) (ho1 : ∀ i, i < n1 → SumOk (q i).sum ∧ Bys w (q i).ja (q i).jl) :
    Calls Try.prog 5 #[.slice a0 n0 c0, .slice a1 n1 c1] w fun e w' => Done w e w' := by
  have P0 := zz14_any a0 n0 c0 p a1 n1 c1 q w hn0 hp hs0 hn1 hq hs1
  unfold maxLen at hn0 hn1
  go_enter Try.func5, Try.ntmps5
  go_wp2_with fail
  refine P0.mono ?_
  rintro e w' ⟨⟨b, rfl, hb⟩, rfl⟩
  clear P0 hp hq
  cases b
  · go_wp2
    go_ret
    exact ⟨rfl, Below.refl _ _⟩
  obtain ⟨fit0, fit1⟩ := hb rfl
  clear hb
  by_cases g0 : (65536 : Int) < (n0 : Int)
  · go_wp2
    go_ret
    exact ⟨rfl, Below.refl _ _⟩
  by_cases g1 : (65536 : Int) < (n1 : Int)
  · go_wp2
    go_ret
    exact ⟨rfl, Below.refl _ _⟩
  go_wp2_with fail
  refine (fb15_any a0 n0 c0 0 p w fit0.1 (Int.le_refl _) (by omega) fit0.2 hs0).mono ?_
  rintro e wa ⟨⟨m1, rfl, l1, u1⟩, d1, hwa⟩
  have ba : Below w.heap.size w wa := by rw [hwa]; exact Below.drewN (Below.refl _ _) _
  clear hwa
  by_cases g2 : (1048576 : Int) < m1
  · go_wp2
    go_ret
    exact ⟨rfl, ba⟩
  go_wp2_with fail
  refine (fb15_any a1 n1 c1 m1 q wa fit1.1 l1 (by omega) fit1.2 (hs1.below ba (Nat.le_refl _))).mono ?_
  rintro e wb ⟨⟨m2, rfl, l2, u2⟩, d2, hwb⟩
  have bb : Below w.heap.size w wb := by rw [hwb]; exact Below.drewN ba _
  clear hwb ba
  by_cases g3 : (1048576 : Int) < m2
  · go_wp2
    go_ret
    exact ⟨rfl, bb⟩
  go_wp2_with fail
  clear l1 u1 l2 u2 g2 g3
  refine (ord16_any a0 n0 c0 p wb fit0.1 (hs0.below bb (Nat.le_refl _))).mono ?_
  rintro e wc ⟨⟨b, rfl, hb⟩, d3, hwc⟩
  have bc : Below w.heap.size w wc := by rw [hwc]; exact Below.drewN bb _
  clear hwc bb
  cases b
  · go_wp2
    go_ret
    exact ⟨rfl, bc⟩
  have R0 := hb rfl
  clear hb
  go_wp2_with fail
  refine (ord16_any a1 n1 c1 q wc fit1.1 (hs1.below bc (Nat.le_refl _))).mono ?_
  rintro e w3 ⟨⟨b, rfl, hb⟩, d4, hw3⟩
  have bz3 : Below w.heap.size w w3 := by rw [hw3]; exact Below.drewN bc _
  clear hw3 bc
  cases b
  · go_wp2
    go_ret
    exact ⟨rfl, bz3⟩
  have R1 := hb rfl
  clear hb
  have z3 := bz3.size
  go_wp2_with fail
  refine (build17 a0 n0 c0 p w3 (by omega) (hs0.below bz3 (Nat.le_refl _)) (fun i h => (ho0 i h).1)).mono ?_
  rintro e w4 ⟨b4, rfl, F, hF⟩
  have z4 := b4.size
  have bz4 := bz3.trans (b4.mono z3)
  go_wp2_with fail
  refine (build17 a1 n1 c1 q w4 (by omega) (hs1.below bz4 (Nat.le_refl _)) (fun i h => (ho1 i h).1)).mono ?_
  rintro e w5 ⟨b5, rfl, G, hG⟩
  have z5 := b5.size
  have bz5 := bz4.trans (b5.mono (by omega))
  have hF5 := hF.below b5
  clear hF
  have fine0 := fine_mkl (F := F) (fun i h => (ho0 i h).1) fit0
  have fine1 := fine_mkl (F := G) (fun i h => (ho1 i h).1) fit1
  go_wp2_with fail
  refine (merge18 _ _ (mkl F p n0) (mkl G q n1) w5 hF5.sl hG.sl (by rw [mkl_len]; omega) (by rw [mkl_len]; omega) fine0 fine1 (asc_mkl R0) (asc_mkl R1)).mono ?_
  rintro e w6 ⟨b6, rfl, z6, r6⟩
  have bz6 := bz5.trans (b6.mono (by omega))
  have hF6 := hF5.below b6
  have hG6 := hG.below b6
  have hM := reads_of R0 R1 bz6 ho0 ho1 fit0 fit1 hF6 hG6 z6 r6
  have hU := union_of (F := F) (G := G) R0 R1
  have hlen := union_len (F := F) (G := G) R0 R1
  have hsz := union_sz (F := F) (G := G) R0 R1
  have hle := union_le (F := F) (G := G) R0 R1
  have hs0' := hs0.below bz6 (Nat.le_refl _)
  have hs1' := hs1.below bz6 (Nat.le_refl _)
  have O := over19_any a0 a1 n0 c0 n1 c1 p q w6 (by omega) (by omega) (fun i h => (fit0.2 i h).2) (fun i h => (fit1.2 i h).2) hs0' hs1' R1
  rw [← hlen, ← hsz] at O
  clear hlen hsz r6 z6 fine0 fine1 hF5 hG hs0 hs1 bz5 bz4 bz3 b4 b5 b6
  generalize mrg El.k (mkl F p n0) (mkl G q n1) = M at *
  have hfit0 := fit0.1
  have hfit1 := fit1.1
  have hp6 := bz6.size
  have fl0 := fun i h => (ho0 i h).1
  have fl1 := fun i h => (ho1 i h).1
  clear fit0 fit1 ho0 ho1
  generalize w5.heap.size = g at *
  generalize w4.heap.size = B1 at *
  generalize w3.heap.size = B0 at *
  clear z3 z4 z5
  go_wp2_with fail
  refine O.mono ?_
  rintro e w7 ⟨rfl, rfl⟩
  clear O
  go_wp2_with fail
  go_loopw [12, 13] (fun u v wr => ∃ (k : Nat) (l : ByteArray), u = .string l ∧ v = .int .i64 k ∧ k ≤ M.length ∧ (∀ y, 0 < k → M[k - 1]? = some y → l = y.src.key) ∧ Below w6.heap.size w6 wr) (fun _ v _ => M.length - (intOf v).toNat)
  case atStart => exact ⟨0, _, rfl, rfl, Nat.zero_le _, fun y h => absurd h (Nat.lt_irrefl 0), Below.refl _ _⟩
  case round =>
    obtain ⟨k, l, rfl, rfl, hk, hl, bW⟩ := hrel
    by_cases hlt : k < M.length
    · obtain ⟨x, hx⟩ : ∃ x, M[k]? = some x := ⟨_, List.getElem?_eq_getElem hlt⟩
      obtain ⟨r0, k0, f0, fx, by0⟩ := (hM.below bW).2 k x hx
      have gW := (hM.below bW).1
      have i0 : (k : Int) < (M.length : Int) := by omega
      go_wp2_with (refine wpList_load_mid rfl 48 (.tmp 81) rfl g (k * 34) rfl x.cs _ r0 Try.underlying48 rfl (by rw [info48, cs_len fx]) ?_)
      refine (parts20 _ _ x.src.sum _ fx.1).mono ?_
      rintro e W1 ⟨rfl, b1⟩
      have z1 := b1.size
      by_cases hk0 : (0 : Int) < (k : Int)
      · have hlast : Op.bytesLess l.toList x.src.key.toList = true := by
          obtain ⟨k', rfl⟩ : ∃ k', k = k' + 1 := ⟨k - 1, by omega⟩
          obtain ⟨y, hy⟩ : ∃ y, M[k']? = some y := ⟨_, List.getElem?_eq_getElem (by omega)⟩
          rw [hl y (by omega) hy]
          exact hU.asc k' y x hy hx
        go_wp2_with (refine wpl_store44 rfl (.tmp 16) (.tmp 86) rfl W1.heap.size x.src.sum rfl rfl (there_at rfl _ _ _ (by simp)) fx.1 ?_; intro W2 r3 t3; have b2a : Below W1.heap.size W1 W2 := ((Below.refl _ _).alloc (Nat.le_refl _) _).trans (t3.below (by simp) (fun k h => by omega)); have b2w := b1.trans (b2a.mono z1); have k2 : W2.cell? ⟨x.fp, 0, none⟩ = some (.string x.src.key) := (b2w.cell f0).trans k0; clear t3 r3 b2a)
        have r2 := Below.range b2w r0 gW
        have by2 := by0.below b2w (Nat.le_refl _)
        have g2 := Nat.lt_of_lt_of_le gW b2w.size
        have b2 := bW.trans (b2w.mono bW.size)
        clear b1 z1 b2w r0 k0 f0 by0 gW bW
        refine (find21_any a1 n1 c1 x.src.key q W2 hfit1 (hs1'.below b2 (Nat.le_refl _)) R1).mono ?_
        rintro e w8 ⟨hF1, rfl⟩
        rcases hF1 with ⟨rfl, hno⟩ | ⟨j, hj, rfl, hyes⟩
        · obtain ⟨j', hj', ej'⟩ := hU.lost k x hx hno
          go_wp2_with fail
          refine (find21_any a0 n0 c0 x.src.key p W2 hfit0 (hs0'.below b2 (Nat.le_refl _)) R0).mono ?_
          rintro e w8 ⟨hF0, rfl⟩
          rcases hF0 with ⟨_, hno0⟩ | ⟨j, hj, rfl, hyes⟩
          · exact absurd ej' (hno0 j' hj')
          clear hj' ej'
          have ej := hU.kept k x j hx hno hj hyes
          have zB : B0 < W2.heap.size := Nat.lt_of_lt_of_le hF6.1 b2.size
          have rB : W2.rangeAt B0 (j * 34) x.cs := by rw [ej]; exact Below.range b2 (hF6.2 j hj).1 hF6.1
          clear ej
          have j0 : (j : Int) < (n0 : Int) := by omega
          have j1 : ¬ ((j : Int) < 0) := by omega
          have j2 : decide ((j : Int) < 0) = false := decide_eq_false j1
          go_wp2_with fail
          refine wp_region_held_drew (S := fun X : World => X.rangeAt g (k * 34) x.cs ∧ X.rangeAt B0 (j * 34) x.cs) (by kernel_rfl) ⟨by simpa using r2, by simpa using rB⟩ (fun hH => ?_)
          refine wpAnyH_take (i := 0) (oi := { dst := some 128, op := .move (.tmp 17), type := _, pos := _, after := _, guard := none }) (v := .int .i64 j) rfl (by kernel_rfl) (by kernel_rfl) (by kernel_rfl) (fun _ _ _ h => h) (Or.inl ⟨by rfl, fun X hX => by go_simp⟩) hH ?_
          simp only [Act.put, List.setIfInBounds_toArray, List.set_cons_succ, List.set_cons_zero]
          refine wpAnyH_take (i := 1) (oi := { dst := some 129, op := .binOp .lss 3 (.tmp 128) (.const (.int .i64 0)) 3, type := _, pos := _, after := _, guard := none }) (v := .bool false) rfl (by kernel_rfl) (by kernel_rfl) (by kernel_rfl) (fun _ _ _ h => h) (Or.inl ⟨by rfl, fun X hX => by go_simp⟩) hH ?_
          simp only [Act.put, List.setIfInBounds_toArray, List.set_cons_succ, List.set_cons_zero]
          refine wpAnyH_take (i := 2) (oi := { dst := some 130, op := .move (.tmp 129), type := _, pos := _, after := _, guard := none }) (v := .bool false) rfl (by kernel_rfl) (by kernel_rfl) (by kernel_rfl) (fun _ _ _ h => h) (Or.inl ⟨by rfl, fun X hX => by go_simp⟩) hH ?_
          simp only [Act.put, List.setIfInBounds_toArray, List.set_cons_succ, List.set_cons_zero]
          refine wpAnyH_take (i := 3) (oi := { dst := some 131, op := .move (.tmp 8), type := _, pos := _, after := _, guard := some (2, false) }) (v := .slice (some ⟨g, 0, none⟩) M.length ((mkl F p n0).length + (mkl G q n1).length)) rfl (by kernel_rfl) (by kernel_rfl) (by kernel_rfl) (fun _ _ _ h => h) (Or.inl ⟨by rfl, fun X hX => by go_simp⟩) hH ?_
          simp only [Act.put, List.setIfInBounds_toArray, List.set_cons_succ, List.set_cons_zero]
          refine wpAnyH_take (i := 4) (oi := { dst := some 132, op := .move (.tmp 13), type := _, pos := _, after := _, guard := some (2, false) }) (v := .int .i64 k) rfl (by kernel_rfl) (by kernel_rfl) (by kernel_rfl) (fun _ _ _ h => h) (Or.inl ⟨by rfl, fun X hX => by go_simp⟩) hH ?_
          simp only [Act.put, List.setIfInBounds_toArray, List.set_cons_succ, List.set_cons_zero]
          refine wpAnyH_take (i := 5) (oi := { dst := some 133, op := .indexAddr 36 (.tmp 131) (.tmp 132), type := _, pos := _, after := _, guard := some (2, false) }) (v := .pointer (some ⟨g, k * 34, none⟩)) rfl (by kernel_rfl) (by kernel_rfl) (by kernel_rfl) (fun _ _ _ h => h) (Or.inl ⟨by rfl, fun X hX => by go_simp⟩) hH ?_
          simp only [Act.put, List.setIfInBounds_toArray, List.set_cons_succ, List.set_cons_zero]
          refine wpAnyH_take (i := 6) (oi := { dst := some 134, op := .load 48 (.tmp 133), type := _, pos := _, after := _, guard := some (2, false) }) (v := .agg x.cs.toArray) rfl (by kernel_rfl) (by kernel_rfl) (by kernel_rfl) (fun _ _ _ h => h) (yieldsIf_load_mid (by rfl) 48 (.tmp 133) rfl g (k * 34) rfl x.cs _ (fun X hX => hX.1) Try.underlying48 rfl (by rw [info48, cs_len fx])) hH ?_
          simp only [Act.put, List.setIfInBounds_toArray, List.set_cons_succ, List.set_cons_zero]
          refine wpAnyH_take (i := 7) (oi := { dst := some 135, op := .move (.tmp 6), type := _, pos := _, after := _, guard := some (2, false) }) (v := .slice (some ⟨B0, 0, none⟩) n0 n0) rfl (by kernel_rfl) (by kernel_rfl) (by kernel_rfl) (fun _ _ _ h => h) (Or.inl ⟨by rfl, fun X hX => by go_simp⟩) hH ?_
          simp only [Act.put, List.setIfInBounds_toArray, List.set_cons_succ, List.set_cons_zero]
          refine wpAnyH_take (i := 8) (oi := { dst := some 136, op := .move (.tmp 17), type := _, pos := _, after := _, guard := some (2, false) }) (v := .int .i64 j) rfl (by kernel_rfl) (by kernel_rfl) (by kernel_rfl) (fun _ _ _ h => h) (Or.inl ⟨by rfl, fun X hX => by go_simp⟩) hH ?_
          simp only [Act.put, List.setIfInBounds_toArray, List.set_cons_succ, List.set_cons_zero]
          refine wpAnyH_take (i := 9) (oi := { dst := some 137, op := .indexAddr 36 (.tmp 135) (.tmp 136), type := _, pos := _, after := _, guard := some (2, false) }) (v := .pointer (some ⟨B0, j * 34, none⟩)) rfl (by kernel_rfl) (by kernel_rfl) (by kernel_rfl) (fun _ _ _ h => h) (Or.inl ⟨by rfl, fun X hX => by go_simp⟩) hH ?_
          simp only [Act.put, List.setIfInBounds_toArray, List.set_cons_succ, List.set_cons_zero]
          refine wpAnyH_take (i := 10) (oi := { dst := some 138, op := .load 48 (.tmp 137), type := _, pos := _, after := _, guard := some (2, false) }) (v := .agg x.cs.toArray) rfl (by kernel_rfl) (by kernel_rfl) (by kernel_rfl) (fun _ _ _ h => h) (yieldsIf_load_mid (by rfl) 48 (.tmp 137) rfl B0 (j * 34) rfl x.cs _ (fun X hX => hX.2) Try.underlying48 rfl (by rw [info48, cs_len fx])) hH ?_
          simp only [Act.put, List.setIfInBounds_toArray, List.set_cons_succ, List.set_cons_zero]
          refine wpAnyH_ready (rs := [11]) (by kernel_rfl) (by simp) ?_
          refine AllReadyH.cons (o := { dst := some 139, op := .call { callee := .value (.func 22), args := #[.tmp 134, .tmp 138], argTypes := #[48, 48] }, type := _, pos := _, after := _, guard := some (2, false) }) rfl (fun K hK => ?_) AllReadyH.nil
          go_simp
          refine (same22 x.fp x.src W2.drew fx.1 fx.2 (by2.below (Below.refl _ _).drew (Nat.le_refl _))).mono ?_
          rintro e X ⟨rfl, bX⟩
          have bX' : Below W2.heap.size W2 X := ⟨bX.os, bX.tape, bX.output, bX.size, bX.block⟩
          refine hK.out _ _ ⟨Below.range bX' r2 g2, Below.range bX' rB zB⟩ (fun hH => ?_)
          refine wpAnyH_take (i := 12) (oi := { dst := some 140, op := .unOp .not 4 (.tmp 139), type := _, pos := _, after := _, guard := some (2, false) }) (v := .bool false) rfl (by kernel_rfl) (by kernel_rfl) (by kernel_rfl) (fun _ _ _ h => h) (Or.inl ⟨by rfl, fun X hX => by go_simp⟩) hH ?_
          simp only [Act.put, List.setIfInBounds_toArray, List.set_cons_succ, List.set_cons_zero]
          refine wpAnyH_take (i := 13) (oi := { dst := some 141, op := .pick (.tmp 130) (.const (.bool true)) (.tmp 140), type := _, pos := _, after := _, guard := none }) (v := .bool false) rfl (by kernel_rfl) (by kernel_rfl) (by kernel_rfl) (fun _ _ _ h => h) (Or.inl ⟨by rfl, fun X hX => by go_simp⟩) hH ?_
          simp only [Act.put, List.setIfInBounds_toArray, List.set_cons_succ, List.set_cons_zero]
          refine wpAnyH_done (by kernel_rfl) ?_ _
          clear hK K hH
          go_wp2
          go_roundw
          case rel => exact ⟨k + 1, x.src.key, rfl, by go_num, hlt, fun y _ hy => by rw [Nat.add_sub_cancel] at hy; rw [hx] at hy; cases hy; rfl, b2.trans (bX'.mono b2.size)⟩
          case measure => simp [intOf]; omega
        · have ej := hU.won k x j hx hj hyes
          have zB : B1 < W2.heap.size := Nat.lt_of_lt_of_le hG6.1 b2.size
          have rB : W2.rangeAt B1 (j * 34) x.cs := by rw [ej]; exact Below.range b2 (hG6.2 j hj).1 hG6.1
          clear ej
          have j0 : (j : Int) < (n1 : Int) := by omega
          go_wp2_with fail
          refine wp_region_held_drew (S := fun X : World => X.rangeAt g (k * 34) x.cs ∧ X.rangeAt B1 (j * 34) x.cs) (by kernel_rfl) ⟨by simpa using r2, by simpa using rB⟩ (fun hH => ?_)
          refine wpAnyH_take (i := 0) (oi := { dst := some 112, op := .move (.tmp 8), type := _, pos := _, after := _, guard := none }) (v := .slice (some ⟨g, 0, none⟩) M.length ((mkl F p n0).length + (mkl G q n1).length)) rfl (by kernel_rfl) (by kernel_rfl) (by kernel_rfl) (fun _ _ _ h => h) (Or.inl ⟨by rfl, fun X hX => by go_simp⟩) hH ?_
          simp only [Act.put, List.setIfInBounds_toArray, List.set_cons_succ, List.set_cons_zero]
          refine wpAnyH_take (i := 1) (oi := { dst := some 113, op := .move (.tmp 13), type := _, pos := _, after := _, guard := none }) (v := .int .i64 k) rfl (by kernel_rfl) (by kernel_rfl) (by kernel_rfl) (fun _ _ _ h => h) (Or.inl ⟨by rfl, fun X hX => by go_simp⟩) hH ?_
          simp only [Act.put, List.setIfInBounds_toArray, List.set_cons_succ, List.set_cons_zero]
          refine wpAnyH_take (i := 2) (oi := { dst := some 114, op := .indexAddr 36 (.tmp 112) (.tmp 113), type := _, pos := _, after := _, guard := none }) (v := .pointer (some ⟨g, k * 34, none⟩)) rfl (by kernel_rfl) (by kernel_rfl) (by kernel_rfl) (fun _ _ _ h => h) (Or.inl ⟨by rfl, fun X hX => by go_simp⟩) hH ?_
          simp only [Act.put, List.setIfInBounds_toArray, List.set_cons_succ, List.set_cons_zero]
          refine wpAnyH_take (i := 3) (oi := { dst := some 115, op := .load 48 (.tmp 114), type := _, pos := _, after := _, guard := none }) (v := .agg x.cs.toArray) rfl (by kernel_rfl) (by kernel_rfl) (by kernel_rfl) (fun _ _ _ h => h) (yieldsIf_load_mid (by rfl) 48 (.tmp 114) rfl g (k * 34) rfl x.cs _ (fun X hX => hX.1) Try.underlying48 rfl (by rw [info48, cs_len fx])) hH ?_
          simp only [Act.put, List.setIfInBounds_toArray, List.set_cons_succ, List.set_cons_zero]
          refine wpAnyH_take (i := 4) (oi := { dst := some 116, op := .move (.tmp 7), type := _, pos := _, after := _, guard := none }) (v := .slice (some ⟨B1, 0, none⟩) n1 n1) rfl (by kernel_rfl) (by kernel_rfl) (by kernel_rfl) (fun _ _ _ h => h) (Or.inl ⟨by rfl, fun X hX => by go_simp⟩) hH ?_
          simp only [Act.put, List.setIfInBounds_toArray, List.set_cons_succ, List.set_cons_zero]
          refine wpAnyH_take (i := 5) (oi := { dst := some 117, op := .move (.tmp 17), type := _, pos := _, after := _, guard := none }) (v := .int .i64 j) rfl (by kernel_rfl) (by kernel_rfl) (by kernel_rfl) (fun _ _ _ h => h) (Or.inl ⟨by rfl, fun X hX => by go_simp⟩) hH ?_
          simp only [Act.put, List.setIfInBounds_toArray, List.set_cons_succ, List.set_cons_zero]
          refine wpAnyH_take (i := 6) (oi := { dst := some 118, op := .indexAddr 36 (.tmp 116) (.tmp 117), type := _, pos := _, after := _, guard := none }) (v := .pointer (some ⟨B1, j * 34, none⟩)) rfl (by kernel_rfl) (by kernel_rfl) (by kernel_rfl) (fun _ _ _ h => h) (Or.inl ⟨by rfl, fun X hX => by go_simp⟩) hH ?_
          simp only [Act.put, List.setIfInBounds_toArray, List.set_cons_succ, List.set_cons_zero]
          refine wpAnyH_take (i := 7) (oi := { dst := some 119, op := .load 48 (.tmp 118), type := _, pos := _, after := _, guard := none }) (v := .agg x.cs.toArray) rfl (by kernel_rfl) (by kernel_rfl) (by kernel_rfl) (fun _ _ _ h => h) (yieldsIf_load_mid (by rfl) 48 (.tmp 118) rfl B1 (j * 34) rfl x.cs _ (fun X hX => hX.2) Try.underlying48 rfl (by rw [info48, cs_len fx])) hH ?_
          simp only [Act.put, List.setIfInBounds_toArray, List.set_cons_succ, List.set_cons_zero]
          refine wpAnyH_ready (rs := [8]) (by kernel_rfl) (by simp) ?_
          refine AllReadyH.cons (o := { dst := some 120, op := .call { callee := .value (.func 22), args := #[.tmp 115, .tmp 119], argTypes := #[48, 48] }, type := _, pos := _, after := _, guard := none }) rfl (fun K hK => ?_) AllReadyH.nil
          go_simp
          refine (same22 x.fp x.src W2.drew fx.1 fx.2 (by2.below (Below.refl _ _).drew (Nat.le_refl _))).mono ?_
          rintro e X ⟨rfl, bX⟩
          have bX' : Below W2.heap.size W2 X := ⟨bX.os, bX.tape, bX.output, bX.size, bX.block⟩
          refine hK.out _ _ ⟨Below.range bX' r2 g2, Below.range bX' rB zB⟩ (fun hH => ?_)
          refine wpAnyH_take (i := 9) (oi := { dst := some 121, op := .unOp .not 4 (.tmp 120), type := _, pos := _, after := _, guard := none }) (v := .bool false) rfl (by kernel_rfl) (by kernel_rfl) (by kernel_rfl) (fun _ _ _ h => h) (Or.inl ⟨by rfl, fun X hX => by go_simp⟩) hH ?_
          simp only [Act.put, List.setIfInBounds_toArray, List.set_cons_succ, List.set_cons_zero]
          refine wpAnyH_done (by kernel_rfl) ?_ _
          clear hK K hH
          go_wp2
          go_roundw
          case rel => exact ⟨k + 1, x.src.key, rfl, by go_num, hlt, fun y _ hy => by rw [Nat.add_sub_cancel] at hy; rw [hx] at hy; cases hy; rfl, b2.trans (bX'.mono b2.size)⟩
          case measure => simp [intOf]; omega
      · have hk1 : decide ((0 : Int) < (k : Int)) = false := decide_eq_false hk0
        go_wp2_with (refine wpl_store44 rfl (.tmp 16) (.tmp 86) rfl W1.heap.size x.src.sum rfl rfl (there_at rfl _ _ _ (by simp)) fx.1 ?_; intro W2 r3 t3; have b2a : Below W1.heap.size W1 W2 := ((Below.refl _ _).alloc (Nat.le_refl _) _).trans (t3.below (by simp) (fun k h => by omega)); have b2w := b1.trans (b2a.mono z1); have k2 : W2.cell? ⟨x.fp, 0, none⟩ = some (.string x.src.key) := (b2w.cell f0).trans k0; clear t3 r3 b2a)
        have r2 := Below.range b2w r0 gW
        have by2 := by0.below b2w (Nat.le_refl _)
        have g2 := Nat.lt_of_lt_of_le gW b2w.size
        have b2 := bW.trans (b2w.mono bW.size)
        clear b1 z1 b2w r0 k0 f0 by0 gW bW
        refine (find21_any a1 n1 c1 x.src.key q W2 hfit1 (hs1'.below b2 (Nat.le_refl _)) R1).mono ?_
        rintro e w8 ⟨hF1, rfl⟩
        rcases hF1 with ⟨rfl, hno⟩ | ⟨j, hj, rfl, hyes⟩
        · obtain ⟨j', hj', ej'⟩ := hU.lost k x hx hno
          go_wp2_with fail
          refine (find21_any a0 n0 c0 x.src.key p W2 hfit0 (hs0'.below b2 (Nat.le_refl _)) R0).mono ?_
          rintro e w8 ⟨hF0, rfl⟩
          rcases hF0 with ⟨_, hno0⟩ | ⟨j, hj, rfl, hyes⟩
          · exact absurd ej' (hno0 j' hj')
          clear hj' ej'
          have ej := hU.kept k x j hx hno hj hyes
          have zB : B0 < W2.heap.size := Nat.lt_of_lt_of_le hF6.1 b2.size
          have rB : W2.rangeAt B0 (j * 34) x.cs := by rw [ej]; exact Below.range b2 (hF6.2 j hj).1 hF6.1
          clear ej
          have j0 : (j : Int) < (n0 : Int) := by omega
          have j1 : ¬ ((j : Int) < 0) := by omega
          have j2 : decide ((j : Int) < 0) = false := decide_eq_false j1
          go_wp2_with fail
          refine wp_region_held_drew (S := fun X : World => X.rangeAt g (k * 34) x.cs ∧ X.rangeAt B0 (j * 34) x.cs) (by kernel_rfl) ⟨by simpa using r2, by simpa using rB⟩ (fun hH => ?_)
          refine wpAnyH_take (i := 0) (oi := { dst := some 128, op := .move (.tmp 17), type := _, pos := _, after := _, guard := none }) (v := .int .i64 j) rfl (by kernel_rfl) (by kernel_rfl) (by kernel_rfl) (fun _ _ _ h => h) (Or.inl ⟨by rfl, fun X hX => by go_simp⟩) hH ?_
          simp only [Act.put, List.setIfInBounds_toArray, List.set_cons_succ, List.set_cons_zero]
          refine wpAnyH_take (i := 1) (oi := { dst := some 129, op := .binOp .lss 3 (.tmp 128) (.const (.int .i64 0)) 3, type := _, pos := _, after := _, guard := none }) (v := .bool false) rfl (by kernel_rfl) (by kernel_rfl) (by kernel_rfl) (fun _ _ _ h => h) (Or.inl ⟨by rfl, fun X hX => by go_simp⟩) hH ?_
          simp only [Act.put, List.setIfInBounds_toArray, List.set_cons_succ, List.set_cons_zero]
          refine wpAnyH_take (i := 2) (oi := { dst := some 130, op := .move (.tmp 129), type := _, pos := _, after := _, guard := none }) (v := .bool false) rfl (by kernel_rfl) (by kernel_rfl) (by kernel_rfl) (fun _ _ _ h => h) (Or.inl ⟨by rfl, fun X hX => by go_simp⟩) hH ?_
          simp only [Act.put, List.setIfInBounds_toArray, List.set_cons_succ, List.set_cons_zero]
          refine wpAnyH_take (i := 3) (oi := { dst := some 131, op := .move (.tmp 8), type := _, pos := _, after := _, guard := some (2, false) }) (v := .slice (some ⟨g, 0, none⟩) M.length ((mkl F p n0).length + (mkl G q n1).length)) rfl (by kernel_rfl) (by kernel_rfl) (by kernel_rfl) (fun _ _ _ h => h) (Or.inl ⟨by rfl, fun X hX => by go_simp⟩) hH ?_
          simp only [Act.put, List.setIfInBounds_toArray, List.set_cons_succ, List.set_cons_zero]
          refine wpAnyH_take (i := 4) (oi := { dst := some 132, op := .move (.tmp 13), type := _, pos := _, after := _, guard := some (2, false) }) (v := .int .i64 k) rfl (by kernel_rfl) (by kernel_rfl) (by kernel_rfl) (fun _ _ _ h => h) (Or.inl ⟨by rfl, fun X hX => by go_simp⟩) hH ?_
          simp only [Act.put, List.setIfInBounds_toArray, List.set_cons_succ, List.set_cons_zero]
          refine wpAnyH_take (i := 5) (oi := { dst := some 133, op := .indexAddr 36 (.tmp 131) (.tmp 132), type := _, pos := _, after := _, guard := some (2, false) }) (v := .pointer (some ⟨g, k * 34, none⟩)) rfl (by kernel_rfl) (by kernel_rfl) (by kernel_rfl) (fun _ _ _ h => h) (Or.inl ⟨by rfl, fun X hX => by go_simp⟩) hH ?_
          simp only [Act.put, List.setIfInBounds_toArray, List.set_cons_succ, List.set_cons_zero]
          refine wpAnyH_take (i := 6) (oi := { dst := some 134, op := .load 48 (.tmp 133), type := _, pos := _, after := _, guard := some (2, false) }) (v := .agg x.cs.toArray) rfl (by kernel_rfl) (by kernel_rfl) (by kernel_rfl) (fun _ _ _ h => h) (yieldsIf_load_mid (by rfl) 48 (.tmp 133) rfl g (k * 34) rfl x.cs _ (fun X hX => hX.1) Try.underlying48 rfl (by rw [info48, cs_len fx])) hH ?_
          simp only [Act.put, List.setIfInBounds_toArray, List.set_cons_succ, List.set_cons_zero]
          refine wpAnyH_take (i := 7) (oi := { dst := some 135, op := .move (.tmp 6), type := _, pos := _, after := _, guard := some (2, false) }) (v := .slice (some ⟨B0, 0, none⟩) n0 n0) rfl (by kernel_rfl) (by kernel_rfl) (by kernel_rfl) (fun _ _ _ h => h) (Or.inl ⟨by rfl, fun X hX => by go_simp⟩) hH ?_
          simp only [Act.put, List.setIfInBounds_toArray, List.set_cons_succ, List.set_cons_zero]
          refine wpAnyH_take (i := 8) (oi := { dst := some 136, op := .move (.tmp 17), type := _, pos := _, after := _, guard := some (2, false) }) (v := .int .i64 j) rfl (by kernel_rfl) (by kernel_rfl) (by kernel_rfl) (fun _ _ _ h => h) (Or.inl ⟨by rfl, fun X hX => by go_simp⟩) hH ?_
          simp only [Act.put, List.setIfInBounds_toArray, List.set_cons_succ, List.set_cons_zero]
          refine wpAnyH_take (i := 9) (oi := { dst := some 137, op := .indexAddr 36 (.tmp 135) (.tmp 136), type := _, pos := _, after := _, guard := some (2, false) }) (v := .pointer (some ⟨B0, j * 34, none⟩)) rfl (by kernel_rfl) (by kernel_rfl) (by kernel_rfl) (fun _ _ _ h => h) (Or.inl ⟨by rfl, fun X hX => by go_simp⟩) hH ?_
          simp only [Act.put, List.setIfInBounds_toArray, List.set_cons_succ, List.set_cons_zero]
          refine wpAnyH_take (i := 10) (oi := { dst := some 138, op := .load 48 (.tmp 137), type := _, pos := _, after := _, guard := some (2, false) }) (v := .agg x.cs.toArray) rfl (by kernel_rfl) (by kernel_rfl) (by kernel_rfl) (fun _ _ _ h => h) (yieldsIf_load_mid (by rfl) 48 (.tmp 137) rfl B0 (j * 34) rfl x.cs _ (fun X hX => hX.2) Try.underlying48 rfl (by rw [info48, cs_len fx])) hH ?_
          simp only [Act.put, List.setIfInBounds_toArray, List.set_cons_succ, List.set_cons_zero]
          refine wpAnyH_ready (rs := [11]) (by kernel_rfl) (by simp) ?_
          refine AllReadyH.cons (o := { dst := some 139, op := .call { callee := .value (.func 22), args := #[.tmp 134, .tmp 138], argTypes := #[48, 48] }, type := _, pos := _, after := _, guard := some (2, false) }) rfl (fun K hK => ?_) AllReadyH.nil
          go_simp
          refine (same22 x.fp x.src W2.drew fx.1 fx.2 (by2.below (Below.refl _ _).drew (Nat.le_refl _))).mono ?_
          rintro e X ⟨rfl, bX⟩
          have bX' : Below W2.heap.size W2 X := ⟨bX.os, bX.tape, bX.output, bX.size, bX.block⟩
          refine hK.out _ _ ⟨Below.range bX' r2 g2, Below.range bX' rB zB⟩ (fun hH => ?_)
          refine wpAnyH_take (i := 12) (oi := { dst := some 140, op := .unOp .not 4 (.tmp 139), type := _, pos := _, after := _, guard := some (2, false) }) (v := .bool false) rfl (by kernel_rfl) (by kernel_rfl) (by kernel_rfl) (fun _ _ _ h => h) (Or.inl ⟨by rfl, fun X hX => by go_simp⟩) hH ?_
          simp only [Act.put, List.setIfInBounds_toArray, List.set_cons_succ, List.set_cons_zero]
          refine wpAnyH_take (i := 13) (oi := { dst := some 141, op := .pick (.tmp 130) (.const (.bool true)) (.tmp 140), type := _, pos := _, after := _, guard := none }) (v := .bool false) rfl (by kernel_rfl) (by kernel_rfl) (by kernel_rfl) (fun _ _ _ h => h) (Or.inl ⟨by rfl, fun X hX => by go_simp⟩) hH ?_
          simp only [Act.put, List.setIfInBounds_toArray, List.set_cons_succ, List.set_cons_zero]
          refine wpAnyH_done (by kernel_rfl) ?_ _
          clear hK K hH
          go_wp2
          go_roundw
          case rel => exact ⟨k + 1, x.src.key, rfl, by go_num, hlt, fun y _ hy => by rw [Nat.add_sub_cancel] at hy; rw [hx] at hy; cases hy; rfl, b2.trans (bX'.mono b2.size)⟩
          case measure => simp [intOf]; omega
        · have ej := hU.won k x j hx hj hyes
          have zB : B1 < W2.heap.size := Nat.lt_of_lt_of_le hG6.1 b2.size
          have rB : W2.rangeAt B1 (j * 34) x.cs := by rw [ej]; exact Below.range b2 (hG6.2 j hj).1 hG6.1
          clear ej
          have j0 : (j : Int) < (n1 : Int) := by omega
          go_wp2_with fail
          refine wp_region_held_drew (S := fun X : World => X.rangeAt g (k * 34) x.cs ∧ X.rangeAt B1 (j * 34) x.cs) (by kernel_rfl) ⟨by simpa using r2, by simpa using rB⟩ (fun hH => ?_)
          refine wpAnyH_take (i := 0) (oi := { dst := some 112, op := .move (.tmp 8), type := _, pos := _, after := _, guard := none }) (v := .slice (some ⟨g, 0, none⟩) M.length ((mkl F p n0).length + (mkl G q n1).length)) rfl (by kernel_rfl) (by kernel_rfl) (by kernel_rfl) (fun _ _ _ h => h) (Or.inl ⟨by rfl, fun X hX => by go_simp⟩) hH ?_
          simp only [Act.put, List.setIfInBounds_toArray, List.set_cons_succ, List.set_cons_zero]
          refine wpAnyH_take (i := 1) (oi := { dst := some 113, op := .move (.tmp 13), type := _, pos := _, after := _, guard := none }) (v := .int .i64 k) rfl (by kernel_rfl) (by kernel_rfl) (by kernel_rfl) (fun _ _ _ h => h) (Or.inl ⟨by rfl, fun X hX => by go_simp⟩) hH ?_
          simp only [Act.put, List.setIfInBounds_toArray, List.set_cons_succ, List.set_cons_zero]
          refine wpAnyH_take (i := 2) (oi := { dst := some 114, op := .indexAddr 36 (.tmp 112) (.tmp 113), type := _, pos := _, after := _, guard := none }) (v := .pointer (some ⟨g, k * 34, none⟩)) rfl (by kernel_rfl) (by kernel_rfl) (by kernel_rfl) (fun _ _ _ h => h) (Or.inl ⟨by rfl, fun X hX => by go_simp⟩) hH ?_
          simp only [Act.put, List.setIfInBounds_toArray, List.set_cons_succ, List.set_cons_zero]
          refine wpAnyH_take (i := 3) (oi := { dst := some 115, op := .load 48 (.tmp 114), type := _, pos := _, after := _, guard := none }) (v := .agg x.cs.toArray) rfl (by kernel_rfl) (by kernel_rfl) (by kernel_rfl) (fun _ _ _ h => h) (yieldsIf_load_mid (by rfl) 48 (.tmp 114) rfl g (k * 34) rfl x.cs _ (fun X hX => hX.1) Try.underlying48 rfl (by rw [info48, cs_len fx])) hH ?_
          simp only [Act.put, List.setIfInBounds_toArray, List.set_cons_succ, List.set_cons_zero]
          refine wpAnyH_take (i := 4) (oi := { dst := some 116, op := .move (.tmp 7), type := _, pos := _, after := _, guard := none }) (v := .slice (some ⟨B1, 0, none⟩) n1 n1) rfl (by kernel_rfl) (by kernel_rfl) (by kernel_rfl) (fun _ _ _ h => h) (Or.inl ⟨by rfl, fun X hX => by go_simp⟩) hH ?_
          simp only [Act.put, List.setIfInBounds_toArray, List.set_cons_succ, List.set_cons_zero]
          refine wpAnyH_take (i := 5) (oi := { dst := some 117, op := .move (.tmp 17), type := _, pos := _, after := _, guard := none }) (v := .int .i64 j) rfl (by kernel_rfl) (by kernel_rfl) (by kernel_rfl) (fun _ _ _ h => h) (Or.inl ⟨by rfl, fun X hX => by go_simp⟩) hH ?_
          simp only [Act.put, List.setIfInBounds_toArray, List.set_cons_succ, List.set_cons_zero]
          refine wpAnyH_take (i := 6) (oi := { dst := some 118, op := .indexAddr 36 (.tmp 116) (.tmp 117), type := _, pos := _, after := _, guard := none }) (v := .pointer (some ⟨B1, j * 34, none⟩)) rfl (by kernel_rfl) (by kernel_rfl) (by kernel_rfl) (fun _ _ _ h => h) (Or.inl ⟨by rfl, fun X hX => by go_simp⟩) hH ?_
          simp only [Act.put, List.setIfInBounds_toArray, List.set_cons_succ, List.set_cons_zero]
          refine wpAnyH_take (i := 7) (oi := { dst := some 119, op := .load 48 (.tmp 118), type := _, pos := _, after := _, guard := none }) (v := .agg x.cs.toArray) rfl (by kernel_rfl) (by kernel_rfl) (by kernel_rfl) (fun _ _ _ h => h) (yieldsIf_load_mid (by rfl) 48 (.tmp 118) rfl B1 (j * 34) rfl x.cs _ (fun X hX => hX.2) Try.underlying48 rfl (by rw [info48, cs_len fx])) hH ?_
          simp only [Act.put, List.setIfInBounds_toArray, List.set_cons_succ, List.set_cons_zero]
          refine wpAnyH_ready (rs := [8]) (by kernel_rfl) (by simp) ?_
          refine AllReadyH.cons (o := { dst := some 120, op := .call { callee := .value (.func 22), args := #[.tmp 115, .tmp 119], argTypes := #[48, 48] }, type := _, pos := _, after := _, guard := none }) rfl (fun K hK => ?_) AllReadyH.nil
          go_simp
          refine (same22 x.fp x.src W2.drew fx.1 fx.2 (by2.below (Below.refl _ _).drew (Nat.le_refl _))).mono ?_
          rintro e X ⟨rfl, bX⟩
          have bX' : Below W2.heap.size W2 X := ⟨bX.os, bX.tape, bX.output, bX.size, bX.block⟩
          refine hK.out _ _ ⟨Below.range bX' r2 g2, Below.range bX' rB zB⟩ (fun hH => ?_)
          refine wpAnyH_take (i := 9) (oi := { dst := some 121, op := .unOp .not 4 (.tmp 120), type := _, pos := _, after := _, guard := none }) (v := .bool false) rfl (by kernel_rfl) (by kernel_rfl) (by kernel_rfl) (fun _ _ _ h => h) (Or.inl ⟨by rfl, fun X hX => by go_simp⟩) hH ?_
          simp only [Act.put, List.setIfInBounds_toArray, List.set_cons_succ, List.set_cons_zero]
          refine wpAnyH_done (by kernel_rfl) ?_ _
          clear hK K hH
          go_wp2
          go_roundw
          case rel => exact ⟨k + 1, x.src.key, rfl, by go_num, hlt, fun y _ hy => by rw [Nat.add_sub_cancel] at hy; rw [hx] at hy; cases hy; rfl, b2.trans (bX'.mono b2.size)⟩
          case measure => simp [intOf]; omega
    · obtain rfl : k = M.length := by omega
      go_wp2
      go_ret
      exact ⟨rfl, bz6.trans (bW.mono bz6.size)⟩
end Go.Proofs.Qxb6615042a
