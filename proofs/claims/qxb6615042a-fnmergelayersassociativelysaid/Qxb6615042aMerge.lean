/- merge: the loop puts out the plain merge of the two lists. -/
import Derived.Test.Qxb6615042aBuild
namespace Go.Proofs.Qxb6615042a
open Go.RowKit
set_option linter.unusedSimpArgs false

/-- One encoded flag: where its flag lies, what it was made of. -/
structure El where
  fp : Nat
  src : Src
def El.k (x : El) : List UInt8 := x.src.key.toList
def El.cs (x : El) : List Value := els x.fp x.src
def El.fine (x : El) : Prop := SumOk x.src.sum ∧ x.src.jl ≤ 1048576

/-- A row of encoded flags. -/
def Encl (w : World) (B o : Nat) (xs : List El) : Prop := ∀ i x, xs[i]? = some x → w.rangeAt B (o + i * 34) x.cs ∧ w.cell? ⟨x.fp, 0, none⟩ = some (.string x.src.key) ∧ x.fp < w.heap.size
/-- A slice of encoded flags. -/
def Sl (w : World) (v : Value) (xs : List El) : Prop := ∃ (x : Option Addr) (c : Nat), v = .slice x xs.length c ∧ xs.length ≤ c ∧ (xs ≠ [] → ∃ B o, x = some ⟨B, o, none⟩ ∧ B < w.heap.size ∧ Encl w B o xs)
def Jn (xs : List El) : Nat := (xs.map (fun x => x.src.jl)).sum
def flat (xs : List El) : List Value := xs.flatMap El.cs

def lenOf : Value → Nat
  | .slice _ n _ => n
  | _ => 0
/-- Where the loop stands: what is left of each, what is out. -/
structure Rel (w : World) (xs ys rs ts os : List El) (x y : Option Addr) (c d : Nat) : Prop where
  eq : os ++ mrg El.k rs ts = mrg El.k xs ys
  fits : os.length + rs.length + ts.length ≤ xs.length + ys.length
  le : rs.length ≤ c
  le' : ts.length ≤ d
  sl : rs ≠ [] → ∃ B o, x = some ⟨B, o, none⟩ ∧ B < w.heap.size ∧ Encl w B o rs
  sl' : ts ≠ [] → ∃ B o, y = some ⟨B, o, none⟩ ∧ B < w.heap.size ∧ Encl w B o ts
  fine : ∀ z ∈ rs, z.fine
  fine' : ∀ z ∈ ts, z.fine
  jn : Jn os ≤ os.length * 1048576

theorem owns_block {w w' : World} {base g k cap : Nat} {xs : List Value} (h : w.ownsRow base 48 34 (.slice (some ⟨g, 0, none⟩) k cap) k xs) (e : w'.heap[g]? = w.heap[g]?) : w'.ownsRow base 48 34 (.slice (some ⟨g, 0, none⟩) k cap) k xs := by
  obtain ⟨h0, h⟩ := h
  refine ⟨h0, ?_⟩
  rcases h with ⟨h, _⟩ | ⟨g', cap', cur, e1, h1, h2, h3⟩
  · cases h
  · cases e1
    exact Or.inr ⟨g, cap, cur, rfl, h1, e.trans h2, h3⟩

/-- Where the rest of a slice lies behind its first element. -/
def nxt (B o c : Nat) : Option Addr := if c = 1 then some ⟨B, o, none⟩ else some ⟨B, o + 34, none⟩
theorem cs_len {x : El} (h : x.fine) : x.cs.length = 34 := els_len _ h.1
theorem cs_size {x : El} (h : x.fine) : x.cs.toArray.size = 34 := els_size _ h.1
theorem stored {w W : World} {g N cap k : Nat} {fl : List Value} {x : El} (hx : x.fine) (b : Below g w W) (t : W.there N 0 34) (o : W.ownsRow g 48 34 (.slice (some ⟨g, 0, none⟩) k cap) k fl) (hgN : g < N) (hNW : N < W.heap.size) :
    Below g w (W.setCells N 0 x.cs) ∧ (W.setCells N 0 x.cs).rangeAt N 0 x.cs ∧ (W.setCells N 0 x.cs).ownsRow g 48 34 (.slice (some ⟨g, 0, none⟩) k cap) k fl ∧ N < (W.setCells N 0 x.cs).heap.size := by
  have T : Turned (fun q => q = N) W (W.setCells N 0 x.cs) := Turned.setCells (S := fun q => q = N) rfl _ _ _ (Turned.refl _ _)
  refine ⟨b.trans (T.below (Nat.le_trans (Nat.le_of_lt hgN) (Nat.le_of_lt hNW)) (fun q h => by omega)), World.rangeAt_setCells_same _ _ _ _ (by rw [cs_len hx]; exact t), owns_block o (T.block g (by omega) (by omega)), by rw [setCells_size]; exact hNW⟩

theorem built1 (x : El) (hx : x.fine) : Try.prog.builtSlice 48 1 [(0, .agg x.cs.toArray)] = some x.cs.toArray := by
  obtain ⟨fp, key, ja, jl, jc, s⟩ := x
  obtain ⟨⟨h, _⟩, _⟩ := hx
  simp only at h
  obtain ⟨a0, s0, rfl, h0⟩ := len_succ h
  obtain ⟨a1, s1, rfl, h1⟩ := len_succ h0
  obtain ⟨a2, s2, rfl, h2⟩ := len_succ h1
  obtain ⟨a3, s3, rfl, h3⟩ := len_succ h2
  obtain ⟨a4, s4, rfl, h4⟩ := len_succ h3
  obtain ⟨a5, s5, rfl, h5⟩ := len_succ h4
  obtain ⟨a6, s6, rfl, h6⟩ := len_succ h5
  obtain ⟨a7, s7, rfl, h7⟩ := len_succ h6
  obtain ⟨a8, s8, rfl, h8⟩ := len_succ h7
  obtain ⟨a9, s9, rfl, h9⟩ := len_succ h8
  obtain ⟨a10, s10, rfl, h10⟩ := len_succ h9
  obtain ⟨a11, s11, rfl, h11⟩ := len_succ h10
  obtain ⟨a12, s12, rfl, h12⟩ := len_succ h11
  obtain ⟨a13, s13, rfl, h13⟩ := len_succ h12
  obtain ⟨a14, s14, rfl, h14⟩ := len_succ h13
  obtain ⟨a15, s15, rfl, h15⟩ := len_succ h14
  obtain ⟨a16, s16, rfl, h16⟩ := len_succ h15
  obtain ⟨a17, s17, rfl, h17⟩ := len_succ h16
  obtain ⟨a18, s18, rfl, h18⟩ := len_succ h17
  obtain ⟨a19, s19, rfl, h19⟩ := len_succ h18
  obtain ⟨a20, s20, rfl, h20⟩ := len_succ h19
  obtain ⟨a21, s21, rfl, h21⟩ := len_succ h20
  obtain ⟨a22, s22, rfl, h22⟩ := len_succ h21
  obtain ⟨a23, s23, rfl, h23⟩ := len_succ h22
  obtain ⟨a24, s24, rfl, h24⟩ := len_succ h23
  obtain ⟨a25, s25, rfl, h25⟩ := len_succ h24
  obtain ⟨a26, s26, rfl, h26⟩ := len_succ h25
  obtain ⟨a27, s27, rfl, h27⟩ := len_succ h26
  obtain ⟨a28, s28, rfl, h28⟩ := len_succ h27
  obtain ⟨a29, s29, rfl, h29⟩ := len_succ h28
  obtain ⟨a30, s30, rfl, h30⟩ := len_succ h29
  obtain ⟨a31, s31, rfl, h31⟩ := len_succ h30
  obtain rfl := List.eq_nil_of_length_eq_zero h31
  kernel_rfl
theorem Jn_snoc (os : List El) (r : El) : Jn (os ++ [r]) = Jn os + r.src.jl := by simp [Jn]
theorem flat_snoc (os : List El) (r : El) : flat (os ++ [r]) = flat os ++ r.cs := by simp [flat]
theorem Encl.tail {w : World} {B o : Nat} {r : El} {rs : List El} (h : Encl w B o (r :: rs)) : Encl w B (o + 34) rs := fun i x hx => by
  have := h (i + 1) x (by simpa using hx)
  rw [show o + (i + 1) * 34 = o + 34 + i * 34 by omega] at this
  exact this
theorem sl_tail {w : World} {B o c : Nat} {r : El} {rs : List El} (hB : B < w.heap.size) (hE : Encl w B o (r :: rs)) (hc : (r :: rs).length ≤ c) : rs ≠ [] → ∃ B' o', nxt B o c = some ⟨B', o', none⟩ ∧ B' < w.heap.size ∧ Encl w B' o' rs := fun hne => by
  have : c ≠ 1 := by
    cases rs with
    | nil => exact absurd rfl hne
    | cons a l => simp at hc; omega
  exact ⟨B, o + 34, by simp [nxt, this], hB, hE.tail⟩
theorem Rel.kept {w : World} {xs ys rs ts os : List El} {r : El} {y : Option Addr} {B o c d : Nat} (h : Rel w xs ys (r :: rs) ts os (some ⟨B, o, none⟩) y c d) (hB : B < w.heap.size) (hE : Encl w B o (r :: rs))
    (hm : mrg El.k (r :: rs) ts = r :: mrg El.k rs ts) : Rel w xs ys rs ts (os ++ [r]) (nxt B o c) y (c - 1) d where
  eq := by rw [← h.eq, hm]; simp
  fits := by have := h.fits; simp at this ⊢; omega
  le := by have := h.le; simp at this; omega
  le' := h.le'
  sl := sl_tail hB hE h.le
  sl' := h.sl'
  fine := fun z hz => h.fine z (List.mem_cons_of_mem _ hz)
  fine' := h.fine'
  jn := by have := h.jn; have := (h.fine r (List.mem_cons_self ..)).2; rw [Jn_snoc]; simp; omega
theorem Rel.brought {w : World} {xs ys rs ts os : List El} {t : El} {x : Option Addr} {B o c d : Nat} (h : Rel w xs ys rs (t :: ts) os x (some ⟨B, o, none⟩) c d) (hB : B < w.heap.size) (hE : Encl w B o (t :: ts))
    (hm : mrg El.k rs (t :: ts) = t :: mrg El.k rs ts) : Rel w xs ys rs ts (os ++ [t]) x (nxt B o d) c (d - 1) where
  eq := by rw [← h.eq, hm]; simp
  fits := by have := h.fits; simp at this ⊢; omega
  le := h.le
  le' := by have := h.le'; simp at this; omega
  sl := h.sl
  sl' := sl_tail hB hE h.le'
  fine := h.fine
  fine' := fun z hz => h.fine' z (List.mem_cons_of_mem _ hz)
  jn := by have := h.jn; have := (h.fine' t (List.mem_cons_self ..)).2; rw [Jn_snoc]; simp; omega
theorem Rel.skip {w : World} {xs ys rs ts os : List El} {r t : El} {B o B2 o2 c d : Nat} (h : Rel w xs ys (r :: rs) (t :: ts) os (some ⟨B, o, none⟩) (some ⟨B2, o2, none⟩) c d) (hB : B < w.heap.size) (hE : Encl w B o (r :: rs)) (hB2 : B2 < w.heap.size) (hE2 : Encl w B2 o2 (t :: ts))
    (hm : mrg El.k (r :: rs) (t :: ts) = t :: mrg El.k rs ts) : Rel w xs ys rs ts (os ++ [t]) (nxt B o c) (nxt B2 o2 d) (c - 1) (d - 1) where
  eq := by rw [← h.eq, hm]; simp
  fits := by have := h.fits; simp at this ⊢; omega
  le := by have := h.le; simp at this; omega
  le' := by have := h.le'; simp at this; omega
  sl := sl_tail hB hE h.le
  sl' := sl_tail hB2 hE2 h.le'
  fine := fun z hz => h.fine z (List.mem_cons_of_mem _ hz)
  fine' := fun z hz => h.fine' z (List.mem_cons_of_mem _ hz)
  jn := by have := h.jn; have := (h.fine' t (List.mem_cons_self ..)).2; rw [Jn_snoc]; simp; omega
/-- Out of the row that the call owns: the encoded flags, one by one. -/
theorem flat_get : ∀ (os : List El), (∀ z ∈ os, z.fine) → ∀ i x, os[i]? = some x → ∀ j, j < 34 → (flat os)[i * 34 + j]? = x.cs[j]?
  | [], _, i, x, h, _, _ => by simp at h
  | a :: os, hf, 0, x, h, j, hj => by
    simp at h; subst h
    have : j < a.cs.length := by rw [cs_len (hf a (List.mem_cons_self ..))]; exact hj
    simp only [flat, List.flatMap_cons, Nat.zero_mul, Nat.zero_add]
    rw [List.getElem?_append_left this]
  | a :: os, hf, i + 1, x, h, j, hj => by
    have hl := cs_len (hf a (List.mem_cons_self ..))
    have := flat_get os (fun z hz => hf z (List.mem_cons_of_mem _ hz)) i x (by simpa using h) j hj
    simp only [flat, List.flatMap_cons]
    rw [List.getElem?_append_right (by rw [hl]; omega), hl, show (i + 1) * 34 + j - 34 = i * 34 + j by omega]
    exact this
theorem owns_range {w : World} {base g cap : Nat} {os : List El} (hf : ∀ z ∈ os, z.fine) (h : w.ownsRow base 48 34 (.slice (some ⟨g, 0, none⟩) os.length cap) os.length (flat os)) : ∀ i x, os[i]? = some x → w.rangeAt g (0 + i * 34) x.cs := fun i x hx j v hv => by
  obtain ⟨_, h⟩ := h
  rcases h with ⟨h, _⟩ | ⟨g', cap', cur, e1, h1, h2, h3, h4, h5, h6⟩
  · cases h
  · cases e1
    have hi : i < os.length := (List.getElem?_eq_some_iff.1 hx).1
    have hj : j < 34 := by
      have := (List.getElem?_eq_some_iff.1 hv).1
      rwa [cs_len (hf x (List.mem_of_getElem? hx))] at this
    rw [cell_of_row w g (0 + i * 34 + j) cur 48 (0, 0) h2, Nat.zero_add]
    have := flat_get os hf i x hx j hj
    rw [← h6, List.getElem?_take, if_pos (by omega), hv] at this
    simpa using this

set_option maxRecDepth 100000 in
set_option maxHeartbeats 3200000 in
theorem merge29 (va vb : Value) (xs ys : List El) (w : World) (ha : Sl w va xs) (hb : Sl w vb ys) (na : xs.length ≤ 1048576) (nb : ys.length ≤ 1048576)
    (fa : ∀ x ∈ xs, x.fine) (fb : ∀ x ∈ ys, x.fine) :
    Calls Try.prog 29 #[va, vb] w fun e w' => Below w.heap.size w w' ∧ ∃ os, os = mrg El.k xs ys ∧ e = .returned (.tuple #[.slice (some ⟨w.heap.size, 0, none⟩) os.length (xs.length + ys.length), .int .i64 (Jn os)]) ∧
      w'.ownsRow w.heap.size 48 34 (.slice (some ⟨w.heap.size, 0, none⟩) os.length (xs.length + ys.length)) os.length (flat os) := by
  obtain ⟨xa, ca, rfl, la, sa⟩ := ha
  obtain ⟨xb, cb, rfl, lb, sb⟩ := hb
  obtain ⟨i48, z48, e1, e2, e3, e4⟩ := info48z
  have Q0 : Rel w xs ys xs ys [] xa xb ca cb := ⟨rfl, by simp, la, lb, sa, sb, fa, fb, Nat.le_refl _⟩
  clear sa sb fa fb
  go_enter Try.func29, Try.ntmps29
  go_wp2_with (refine wpList_make_own w rfl (.const (.int .i64 0)) (.tmp 13) 36 rfl w.heap.size 48 i48 z48 34 Try.underlying36 e1 e2 e3 .i64 .i64 ((xs.length : Int) + (ys.length : Int)) (xs.length + ys.length) rfl rfl (by simp) (by rw [e4]; omega) (by unfold maxLen; omega) (Nat.le_refl _) ?_; intro w1 hown hg; have b1 : Below w.heap.size w w1 := (Below.refl _ _).grown hg (Nat.le_refl _) (fun k h => by cases h); clear hg)
  generalize hG : w.heap.size = g at *
  go_loopw [0, 1, 6, 7] (fun u0 u1 u6 u7 wr => ∃ (rs ts os : List El) (x y : Option Addr) (c d : Nat), u0 = .slice x rs.length c ∧ u1 = .slice y ts.length d ∧ u6 = .slice (some ⟨g, 0, none⟩) os.length (xs.length + ys.length) ∧ u7 = .int .i64 (Jn os) ∧ Rel w xs ys rs ts os x y c d ∧ Below g w wr ∧ wr.ownsRow g 48 34 (.slice (some ⟨g, 0, none⟩) os.length (xs.length + ys.length)) os.length (flat os)) (fun u0 u1 _ _ _ => lenOf u0 + lenOf u1)
  case atStart => exact ⟨xs, ys, [], xa, xb, ca, cb, rfl, rfl, rfl, rfl, Q0, b1, hown⟩
  case round =>
    clear Q0 b1 hown
    obtain ⟨rs, ts, os, x, y, c, d, rfl, rfl, rfl, rfl, hR, bW, hO⟩ := hrel
    obtain ⟨tO, gO⟩ := there_own hO
    cases ts with
    | nil =>
      cases rs with
      | nil =>
        simp only [List.length_nil]
        go_wp2
        go_ret2
        rw [hG]
        exact ⟨bW, os, by have := hR.eq; rw [mrg_nil, List.append_nil] at this; exact this, rfl, hO⟩
      | cons r rs =>
        have i0 : (0 : Int) < (rs.length : Int) + 1 := by omega
        simp only [List.length_nil, List.length_cons]
        go_wp2_with fail
        have hW : ∃ W, W = wr.alloc (.cells (#[.pointer none, .slice none 0 0] ++ Array.replicate 32 (.int .u8 0)) 48) ∧ Below g w W ∧ W.there wr.heap.size 0 34 ∧ wr.heap.size < W.heap.size ∧ W.ownsRow g 48 34 (.slice (some ⟨g, 0, none⟩) os.length (xs.length + ys.length)) os.length (flat os) :=
          ⟨_, rfl, bW.alloc (Nat.le_of_lt gO) _, there_at rfl _ _ _ (by simp), by simp, owns_block hO (Below.heap_alloc _ _ _ gO)⟩
        obtain ⟨W, eW, b2, t2, z2, o2⟩ := hW
        have eW' := eW.symm
        simp only [Array.replicate_succ, Array.replicate_zero, List.push_toArray, List.append_toArray, List.nil_append, List.cons_append] at eW'
        rw [eW']
        generalize hN : wr.heap.size = N at *
        clear eW eW' hO bW
        obtain ⟨B, o, rfl, hB, hE⟩ := hR.sl (by simp)
        have hc1 : (rs.length : Int) + 1 ≤ (c : Int) := by have := hR.le; simp at this; omega
        have fa := hR.fine r (List.mem_cons_self ..)
        have qa := hE 0 r rfl
        rw [Nat.zero_mul, Nat.add_zero] at qa
        obtain ⟨pa, ka, la⟩ := qa
        have rEa : W.rangeAt B o r.cs := Below.range b2 pa (by rw [← hG]; exact hB)
        have kEa : W.cell? ⟨r.fp, 0, none⟩ = some (.string r.src.key) := by rw [b2.cell (by rw [← hG]; exact la)]; exact ka
        have cEa : W.cell? ⟨B, o, none⟩ = some (.pointer (some ⟨r.fp, 0, none⟩)) := rEa 0 _ rfl
        clear pa ka la
        go_quiet (fail)
        go_wp2_with fail
        have i1a : ¬ ((rs.length : Int) + 1 < 1) := by omega
        have rE' : (W.drewN nq).drew.rangeAt B o r.cs := rEa
        have t2' : (W.drewN nq).drew.there N 0 34 := t2
        refine wp_region_held_drew (S := fun X : World => X.rangeAt B o r.cs ∧ X.there N 0 34) (by kernel_rfl) ⟨rE', t2'⟩ (fun hH => ?_)
        refine wpAnyH_take (i := 0) (oi := { dst := some 48, op := .move (.tmp 0), type := _, pos := _, after := _, guard := none }) (v := .slice (some ⟨B, o, none⟩) (rs.length + 1) c) rfl (by kernel_rfl) (by kernel_rfl) (by kernel_rfl) (fun _ _ _ h => h) (Or.inl ⟨by rfl, fun X hX => by go_simp⟩) hH ?_
        simp only [Act.put, List.setIfInBounds_toArray, List.set_cons_succ, List.set_cons_zero]
        refine wpAnyH_take (i := 1) (oi := { dst := some 49, op := .indexAddr 36 (.tmp 48) (.const (.int .i64 0)), type := _, pos := _, after := _, guard := none }) (v := .pointer (some ⟨B, o, none⟩)) rfl (by kernel_rfl) (by kernel_rfl) (by kernel_rfl) (fun _ _ _ h => h) (Or.inl ⟨by rfl, fun X hX => by go_simp⟩) hH ?_
        simp only [Act.put, List.setIfInBounds_toArray, List.set_cons_succ, List.set_cons_zero]
        refine wpAnyH_take (i := 2) (oi := { dst := some 50, op := .load 48 (.tmp 49), type := _, pos := _, after := _, guard := none }) (v := .agg r.cs.toArray) rfl (by kernel_rfl) (by kernel_rfl) (by kernel_rfl) (fun _ _ _ h => h) (yieldsIf_load_mid (by rfl) 48 (.tmp 49) rfl B o rfl r.cs _ (fun X hX => hX.1) Try.underlying48 rfl (by rw [info48, cs_len fa])) hH ?_
        simp only [Act.put, List.setIfInBounds_toArray, List.set_cons_succ, List.set_cons_zero]
        refine wpAnyH_take (i := 3) (oi := { dst := some 51, op := .move (.tmp 0), type := _, pos := _, after := _, guard := none }) (v := .slice (some ⟨B, o, none⟩) (rs.length + 1) c) rfl (by kernel_rfl) (by kernel_rfl) (by kernel_rfl) (fun _ _ _ h => h) (Or.inl ⟨by rfl, fun X hX => by go_simp⟩) hH ?_
        simp only [Act.put, List.setIfInBounds_toArray, List.set_cons_succ, List.set_cons_zero]
        refine wpAnyH_take (i := 4) (oi := { dst := some 52, op := .slice 36 (.tmp 51) (some (.const (.int .i64 1))) none none, type := _, pos := _, after := _, guard := none }) (v := .slice (nxt B o c) rs.length (c - 1)) rfl (by kernel_rfl) (by kernel_rfl) (by kernel_rfl) (fun _ _ _ h => h) (Or.inl ⟨by rfl, fun X hX => by unfold nxt; go_simp⟩) hH ?_
        simp only [Act.put, List.setIfInBounds_toArray, List.set_cons_succ, List.set_cons_zero]
        refine wpAnyH_ready (rs := [5]) (by kernel_rfl) (by simp) ?_
        refine AllReadyH.cons (o := { dst := none, op := .store 48 (.tmp 8) (.tmp 50), type := _, pos := _, after := _, guard := none }) rfl (fun K hK => ?_) AllReadyH.nil
        rw [if_pos (by rfl)]
        refine wp_store_mid 48 (.tmp 8) (.tmp 50) rfl N 0 r.cs.toArray rfl rfl (by rw [cs_size fa]; exact t2') (by rw [cs_size fa, info48]) (all_oneCell_toArray (els_one _ fa.1)) ?_
        obtain ⟨b3, r3, o3, z3⟩ := stored (W := (W.drewN nq).drew) fa ⟨b2.os, b2.tape, b2.output, b2.size, b2.block⟩ t2' o2 (by omega) z2
        refine hK.out _ _ ⟨World.rangeAt_setCells_apart rE' _ _ _ (Or.inl (by omega)), World.there_setCells t2' _ _ _⟩ (fun hH => ?_)
        simp only [Act.put, List.setIfInBounds_toArray, List.set_cons_succ, List.set_cons_zero]
        refine wpAnyH_take (i := 6) (oi := { dst := some 0, op := .assign (.tmp 52), type := _, pos := _, after := _, guard := none }) (v := .slice (nxt B o c) rs.length (c - 1)) rfl (by kernel_rfl) (by kernel_rfl) (by kernel_rfl) (fun _ _ _ h => h) (Or.inl ⟨by rfl, fun X hX => by go_simp⟩) hH ?_
        simp only [Act.put, List.setIfInBounds_toArray, List.set_cons_succ, List.set_cons_zero]
        refine wpAnyH_done (by kernel_rfl) ?_ _
        clear hK K hH rE' t2' t2 b2 z2 o2 rEa kEa cEa
        show Exit.then _ _ _ _ ((W.drewN nq).drew.setCells N 0 r.cs)
        generalize (W.drewN nq).drew.setCells N 0 r.cs = V at *
        have hb1 := built1 r fa
        have jb := hR.jn
        have fi := hR.fits
        simp only [List.length_nil, List.length_cons] at fi
        have jl := fa.2
        go_wp2_with (first
          | (refine wpList_load_mid rfl 48 (.tmp 8) rfl N 0 rfl r.cs _ r3 Try.underlying48 rfl (by rw [info48, cs_len fa]) ?_)
          | (refine Go.Great.wpList_buildSliceTo rfl 36 48 1 _ rfl V.heap.size rfl (some 82) rfl Try.underlying36 r.cs.toArray (by simp only [List.map_toArray, List.map_cons, List.map_nil]; exact hb1) ?_)
          | (refine wpList_append_fits _ rfl (.tmp 80) (.tmp 82) 36 rfl g 48 i48 34 Try.underlying36 e1 e3 g os.length (xs.length + ys.length) (flat os) rfl (owns_block o3 (Below.heap_alloc _ _ _ (by omega))) ⟨V.heap.size, 0, none⟩ 1 1 r.cs rfl (by rw [cs_len fa]) (fun j u h => by rw [Addr.add_mid]; exact range_at rfl _ _ j u h) (els_one _ fa.1) (by omega) ?_; intro w4 o4 hgrow; have c4 : w4.cell? ⟨N, 1, none⟩ = some (.slice r.src.ja r.src.jl r.src.jc) := (Turned.range (Turned.of_grown hgrow) (World.rangeAt_alloc r3 _) (by simp; omega) (by omega)) 1 _ rfl; have b4 : Below g w w4 := (b3.alloc (by omega) _).grown hgrow (by simp; omega) (fun k h => by cases h; exact Nat.le_refl _); clear hgrow))
        go_roundw
        case rel =>
          refine ⟨rs, [], os ++ [r], nxt B o c, y, c - 1, d, rfl, rfl, by simp, ?_, hR.kept hB hE (by rw [mrg_nil, mrg_nil]), b4, ?_⟩
          · rw [Jn_snoc, Int.natCast_add]
          · rw [flat_snoc, List.length_append]; exact o4
        case measure => simp only [lenOf, List.length_nil, List.length_cons]; omega
    | cons t ts =>
      cases rs with
      | nil =>
        have i0 : (0 : Int) < (ts.length : Int) + 1 := by omega
        have i2 : ¬ ((ts.length : Int) + 1 = 0) := by omega
        have i3 : decide ((ts.length : Int) + 1 = 0) = false := decide_eq_false i2
        have i4 : ((ts.length : Int) + 1 == 0) = false := beq_eq_false_iff_ne.2 i2
        simp only [List.length_nil, List.length_cons]
        go_wp2_with fail
        have hW : ∃ W, W = wr.alloc (.cells (#[.pointer none, .slice none 0 0] ++ Array.replicate 32 (.int .u8 0)) 48) ∧ Below g w W ∧ W.there wr.heap.size 0 34 ∧ wr.heap.size < W.heap.size ∧ W.ownsRow g 48 34 (.slice (some ⟨g, 0, none⟩) os.length (xs.length + ys.length)) os.length (flat os) :=
          ⟨_, rfl, bW.alloc (Nat.le_of_lt gO) _, there_at rfl _ _ _ (by simp), by simp, owns_block hO (Below.heap_alloc _ _ _ gO)⟩
        obtain ⟨W, eW, b2, t2, z2, o2⟩ := hW
        have eW' := eW.symm
        simp only [Array.replicate_succ, Array.replicate_zero, List.push_toArray, List.append_toArray, List.nil_append, List.cons_append] at eW'
        rw [eW']
        generalize hN : wr.heap.size = N at *
        clear eW eW' hO bW
        obtain ⟨B, o, rfl, hB, hE⟩ := hR.sl' (by simp)
        have hc1 : (ts.length : Int) + 1 ≤ (d : Int) := by have := hR.le'; simp at this; omega
        have fb := hR.fine' t (List.mem_cons_self ..)
        have qb := hE 0 t rfl
        rw [Nat.zero_mul, Nat.add_zero] at qb
        obtain ⟨pb, kb, lb⟩ := qb
        have rEb : W.rangeAt B o t.cs := Below.range b2 pb (by rw [← hG]; exact hB)
        have kEb : W.cell? ⟨t.fp, 0, none⟩ = some (.string t.src.key) := by rw [b2.cell (by rw [← hG]; exact lb)]; exact kb
        have cEb : W.cell? ⟨B, o, none⟩ = some (.pointer (some ⟨t.fp, 0, none⟩)) := rEb 0 _ rfl
        clear pb kb lb
        go_quiet (fail)
        go_wp2_with fail
        have rEb1 : (W.drewN nq).rangeAt B o t.cs := rEb
        have kEb1 : (W.drewN nq).cell? ⟨t.fp, 0, none⟩ = some (.string t.src.key) := kEb
        have cEb1 : (W.drewN nq).cell? ⟨B, o, none⟩ = some (.pointer (some ⟨t.fp, 0, none⟩)) := cEb
        have b21 : Below g w (W.drewN nq) := Below.drewN b2 nq
        have t21 : (W.drewN nq).there N 0 34 := t2
        have z21 : N < (W.drewN nq).heap.size := z2
        have o21 : (W.drewN nq).ownsRow g 48 34 (.slice (some ⟨g, 0, none⟩) os.length (xs.length + ys.length)) os.length (flat os) := o2
        clear b2 t2 z2 o2 rEb kEb cEb
        generalize W.drewN nq = W2 at *
        have b2 := b21
        have t2 := t21
        have z2 := z21
        have o2 := o21
        clear b21 t21 z21 o21
        have rEb := rEb1
        clear rEb1
        have kEb := kEb1
        clear kEb1
        have cEb := cEb1
        clear cEb1
        go_quiet (fail)
        go_wp2_with fail
        have i1b : ¬ ((ts.length : Int) + 1 < 1) := by omega
        have rE' : (W2.drewN nq).drew.rangeAt B o t.cs := rEb
        have t2' : (W2.drewN nq).drew.there N 0 34 := t2
        refine wp_region_held_drew (S := fun X : World => X.rangeAt B o t.cs ∧ X.there N 0 34) (by kernel_rfl) ⟨rE', t2'⟩ (fun hH => ?_)
        refine wpAnyH_take (i := 0) (oi := { dst := some 75, op := .move (.tmp 1), type := _, pos := _, after := _, guard := none }) (v := .slice (some ⟨B, o, none⟩) (ts.length + 1) d) rfl (by kernel_rfl) (by kernel_rfl) (by kernel_rfl) (fun _ _ _ h => h) (Or.inl ⟨by rfl, fun X hX => by go_simp⟩) hH ?_
        simp only [Act.put, List.setIfInBounds_toArray, List.set_cons_succ, List.set_cons_zero]
        refine wpAnyH_take (i := 1) (oi := { dst := some 76, op := .indexAddr 36 (.tmp 75) (.const (.int .i64 0)), type := _, pos := _, after := _, guard := none }) (v := .pointer (some ⟨B, o, none⟩)) rfl (by kernel_rfl) (by kernel_rfl) (by kernel_rfl) (fun _ _ _ h => h) (Or.inl ⟨by rfl, fun X hX => by go_simp⟩) hH ?_
        simp only [Act.put, List.setIfInBounds_toArray, List.set_cons_succ, List.set_cons_zero]
        refine wpAnyH_take (i := 2) (oi := { dst := some 77, op := .load 48 (.tmp 76), type := _, pos := _, after := _, guard := none }) (v := .agg t.cs.toArray) rfl (by kernel_rfl) (by kernel_rfl) (by kernel_rfl) (fun _ _ _ h => h) (yieldsIf_load_mid (by rfl) 48 (.tmp 76) rfl B o rfl t.cs _ (fun X hX => hX.1) Try.underlying48 rfl (by rw [info48, cs_len fb])) hH ?_
        simp only [Act.put, List.setIfInBounds_toArray, List.set_cons_succ, List.set_cons_zero]
        refine wpAnyH_take (i := 3) (oi := { dst := some 78, op := .move (.tmp 1), type := _, pos := _, after := _, guard := none }) (v := .slice (some ⟨B, o, none⟩) (ts.length + 1) d) rfl (by kernel_rfl) (by kernel_rfl) (by kernel_rfl) (fun _ _ _ h => h) (Or.inl ⟨by rfl, fun X hX => by go_simp⟩) hH ?_
        simp only [Act.put, List.setIfInBounds_toArray, List.set_cons_succ, List.set_cons_zero]
        refine wpAnyH_take (i := 4) (oi := { dst := some 79, op := .slice 36 (.tmp 78) (some (.const (.int .i64 1))) none none, type := _, pos := _, after := _, guard := none }) (v := .slice (nxt B o d) ts.length (d - 1)) rfl (by kernel_rfl) (by kernel_rfl) (by kernel_rfl) (fun _ _ _ h => h) (Or.inl ⟨by rfl, fun X hX => by unfold nxt; go_simp⟩) hH ?_
        simp only [Act.put, List.setIfInBounds_toArray, List.set_cons_succ, List.set_cons_zero]
        refine wpAnyH_ready (rs := [5]) (by kernel_rfl) (by simp) ?_
        refine AllReadyH.cons (o := { dst := none, op := .store 48 (.tmp 8) (.tmp 77), type := _, pos := _, after := _, guard := none }) rfl (fun K hK => ?_) AllReadyH.nil
        rw [if_pos (by rfl)]
        refine wp_store_mid 48 (.tmp 8) (.tmp 77) rfl N 0 t.cs.toArray rfl rfl (by rw [cs_size fb]; exact t2') (by rw [cs_size fb, info48]) (all_oneCell_toArray (els_one _ fb.1)) ?_
        obtain ⟨b3, r3, o3, z3⟩ := stored (W := (W2.drewN nq).drew) fb ⟨b2.os, b2.tape, b2.output, b2.size, b2.block⟩ t2' o2 (by omega) z2
        refine hK.out _ _ ⟨World.rangeAt_setCells_apart rE' _ _ _ (Or.inl (by omega)), World.there_setCells t2' _ _ _⟩ (fun hH => ?_)
        simp only [Act.put, List.setIfInBounds_toArray, List.set_cons_succ, List.set_cons_zero]
        refine wpAnyH_take (i := 6) (oi := { dst := some 1, op := .assign (.tmp 79), type := _, pos := _, after := _, guard := none }) (v := .slice (nxt B o d) ts.length (d - 1)) rfl (by kernel_rfl) (by kernel_rfl) (by kernel_rfl) (fun _ _ _ h => h) (Or.inl ⟨by rfl, fun X hX => by go_simp⟩) hH ?_
        simp only [Act.put, List.setIfInBounds_toArray, List.set_cons_succ, List.set_cons_zero]
        refine wpAnyH_done (by kernel_rfl) ?_ _
        clear hK K hH rE' t2' t2 b2 z2 o2 rEb kEb cEb
        show Exit.then _ _ _ _ ((W2.drewN nq).drew.setCells N 0 t.cs)
        generalize (W2.drewN nq).drew.setCells N 0 t.cs = V at *
        have hb1 := built1 t fb
        have jb := hR.jn
        have fi := hR.fits
        simp only [List.length_nil, List.length_cons] at fi
        have jl := fb.2
        go_wp2_with (first
          | (refine wpList_load_mid rfl 48 (.tmp 8) rfl N 0 rfl t.cs _ r3 Try.underlying48 rfl (by rw [info48, cs_len fb]) ?_)
          | (refine Go.Great.wpList_buildSliceTo rfl 36 48 1 _ rfl V.heap.size rfl (some 82) rfl Try.underlying36 t.cs.toArray (by simp only [List.map_toArray, List.map_cons, List.map_nil]; exact hb1) ?_)
          | (refine wpList_append_fits _ rfl (.tmp 80) (.tmp 82) 36 rfl g 48 i48 34 Try.underlying36 e1 e3 g os.length (xs.length + ys.length) (flat os) rfl (owns_block o3 (Below.heap_alloc _ _ _ (by omega))) ⟨V.heap.size, 0, none⟩ 1 1 t.cs rfl (by rw [cs_len fb]) (fun j u h => by rw [Addr.add_mid]; exact range_at rfl _ _ j u h) (els_one _ fb.1) (by omega) ?_; intro w4 o4 hgrow; have c4 : w4.cell? ⟨N, 1, none⟩ = some (.slice t.src.ja t.src.jl t.src.jc) := (Turned.range (Turned.of_grown hgrow) (World.rangeAt_alloc r3 _) (by simp; omega) (by omega)) 1 _ rfl; have b4 : Below g w w4 := (b3.alloc (by omega) _).grown hgrow (by simp; omega) (fun k h => by cases h; exact Nat.le_refl _); clear hgrow))
        go_roundw
        case rel =>
          refine ⟨[], ts, os ++ [t], x, nxt B o d, c, d - 1, rfl, rfl, by simp, ?_, hR.brought hB hE (by rw [mrg_nil', mrg_nil']), b4, ?_⟩
          · rw [Jn_snoc, Int.natCast_add]
          · rw [flat_snoc, List.length_append]; exact o4
        case measure => simp only [lenOf, List.length_nil, List.length_cons]; omega
      | cons r rs =>
        have i0 : (0 : Int) < (rs.length : Int) + 1 := by omega
        have i0' : (0 : Int) < (ts.length : Int) + 1 := by omega
        have i2 : ¬ ((ts.length : Int) + 1 = 0) := by omega
        have i3 : decide ((ts.length : Int) + 1 = 0) = false := decide_eq_false i2
        have i4 : ((ts.length : Int) + 1 == 0) = false := beq_eq_false_iff_ne.2 i2
        simp only [List.length_nil, List.length_cons]
        go_wp2_with fail
        have hW : ∃ W, W = wr.alloc (.cells (#[.pointer none, .slice none 0 0] ++ Array.replicate 32 (.int .u8 0)) 48) ∧ Below g w W ∧ W.there wr.heap.size 0 34 ∧ wr.heap.size < W.heap.size ∧ W.ownsRow g 48 34 (.slice (some ⟨g, 0, none⟩) os.length (xs.length + ys.length)) os.length (flat os) :=
          ⟨_, rfl, bW.alloc (Nat.le_of_lt gO) _, there_at rfl _ _ _ (by simp), by simp, owns_block hO (Below.heap_alloc _ _ _ gO)⟩
        obtain ⟨W, eW, b2, t2, z2, o2⟩ := hW
        have eW' := eW.symm
        simp only [Array.replicate_succ, Array.replicate_zero, List.push_toArray, List.append_toArray, List.nil_append, List.cons_append] at eW'
        rw [eW']
        generalize hN : wr.heap.size = N at *
        clear eW eW' hO bW
        obtain ⟨B, o, rfl, hB, hE⟩ := hR.sl (by simp)
        obtain ⟨B2, o', rfl, hB2, hE2⟩ := hR.sl' (by simp)
        have hc1 : (rs.length : Int) + 1 ≤ (c : Int) := by have := hR.le; simp at this; omega
        have hc2 : (ts.length : Int) + 1 ≤ (d : Int) := by have := hR.le'; simp at this; omega
        have fa := hR.fine r (List.mem_cons_self ..)
        have qa := hE 0 r rfl
        rw [Nat.zero_mul, Nat.add_zero] at qa
        obtain ⟨pa, ka, la⟩ := qa
        have rEa : W.rangeAt B o r.cs := Below.range b2 pa (by rw [← hG]; exact hB)
        have kEa : W.cell? ⟨r.fp, 0, none⟩ = some (.string r.src.key) := by rw [b2.cell (by rw [← hG]; exact la)]; exact ka
        have cEa : W.cell? ⟨B, o, none⟩ = some (.pointer (some ⟨r.fp, 0, none⟩)) := rEa 0 _ rfl
        clear pa ka la
        have fb := hR.fine' t (List.mem_cons_self ..)
        have qb := hE2 0 t rfl
        rw [Nat.zero_mul, Nat.add_zero] at qb
        obtain ⟨pb, kb, lb⟩ := qb
        have rEb : W.rangeAt B2 o' t.cs := Below.range b2 pb (by rw [← hG]; exact hB2)
        have kEb : W.cell? ⟨t.fp, 0, none⟩ = some (.string t.src.key) := by rw [b2.cell (by rw [← hG]; exact lb)]; exact kb
        have cEb : W.cell? ⟨B2, o', none⟩ = some (.pointer (some ⟨t.fp, 0, none⟩)) := rEb 0 _ rfl
        clear pb kb lb
        cases hL : Op.bytesLess r.src.key.toList t.src.key.toList
        · go_quiet (fail)
          go_wp2_with fail
          have rEa1 : (W.drewN nq).rangeAt B o r.cs := rEa
          have kEa1 : (W.drewN nq).cell? ⟨r.fp, 0, none⟩ = some (.string r.src.key) := kEa
          have cEa1 : (W.drewN nq).cell? ⟨B, o, none⟩ = some (.pointer (some ⟨r.fp, 0, none⟩)) := cEa
          have rEb1 : (W.drewN nq).rangeAt B2 o' t.cs := rEb
          have kEb1 : (W.drewN nq).cell? ⟨t.fp, 0, none⟩ = some (.string t.src.key) := kEb
          have cEb1 : (W.drewN nq).cell? ⟨B2, o', none⟩ = some (.pointer (some ⟨t.fp, 0, none⟩)) := cEb
          have b21 : Below g w (W.drewN nq) := Below.drewN b2 nq
          have t21 : (W.drewN nq).there N 0 34 := t2
          have z21 : N < (W.drewN nq).heap.size := z2
          have o21 : (W.drewN nq).ownsRow g 48 34 (.slice (some ⟨g, 0, none⟩) os.length (xs.length + ys.length)) os.length (flat os) := o2
          clear b2 t2 z2 o2 rEa kEa cEa rEb kEb cEb
          generalize W.drewN nq = W2 at *
          have b2 := b21
          have t2 := t21
          have z2 := z21
          have o2 := o21
          clear b21 t21 z21 o21
          have rEa := rEa1
          clear rEa1
          have kEa := kEa1
          clear kEa1
          have cEa := cEa1
          clear cEa1
          have rEb := rEb1
          clear rEb1
          have kEb := kEb1
          clear kEb1
          have cEb := cEb1
          clear cEb1
          cases hQ : (r.src.key.toList == t.src.key.toList)
          · go_quiet (fail)
            go_wp2_with fail
            have i1b : ¬ ((ts.length : Int) + 1 < 1) := by omega
            have rE' : (W2.drewN nq).drew.rangeAt B2 o' t.cs := rEb
            have t2' : (W2.drewN nq).drew.there N 0 34 := t2
            refine wp_region_held_drew (S := fun X : World => X.rangeAt B2 o' t.cs ∧ X.there N 0 34) (by kernel_rfl) ⟨rE', t2'⟩ (fun hH => ?_)
            refine wpAnyH_take (i := 0) (oi := { dst := some 75, op := .move (.tmp 1), type := _, pos := _, after := _, guard := none }) (v := .slice (some ⟨B2, o', none⟩) (ts.length + 1) d) rfl (by kernel_rfl) (by kernel_rfl) (by kernel_rfl) (fun _ _ _ h => h) (Or.inl ⟨by rfl, fun X hX => by go_simp⟩) hH ?_
            simp only [Act.put, List.setIfInBounds_toArray, List.set_cons_succ, List.set_cons_zero]
            refine wpAnyH_take (i := 1) (oi := { dst := some 76, op := .indexAddr 36 (.tmp 75) (.const (.int .i64 0)), type := _, pos := _, after := _, guard := none }) (v := .pointer (some ⟨B2, o', none⟩)) rfl (by kernel_rfl) (by kernel_rfl) (by kernel_rfl) (fun _ _ _ h => h) (Or.inl ⟨by rfl, fun X hX => by go_simp⟩) hH ?_
            simp only [Act.put, List.setIfInBounds_toArray, List.set_cons_succ, List.set_cons_zero]
            refine wpAnyH_take (i := 2) (oi := { dst := some 77, op := .load 48 (.tmp 76), type := _, pos := _, after := _, guard := none }) (v := .agg t.cs.toArray) rfl (by kernel_rfl) (by kernel_rfl) (by kernel_rfl) (fun _ _ _ h => h) (yieldsIf_load_mid (by rfl) 48 (.tmp 76) rfl B2 o' rfl t.cs _ (fun X hX => hX.1) Try.underlying48 rfl (by rw [info48, cs_len fb])) hH ?_
            simp only [Act.put, List.setIfInBounds_toArray, List.set_cons_succ, List.set_cons_zero]
            refine wpAnyH_take (i := 3) (oi := { dst := some 78, op := .move (.tmp 1), type := _, pos := _, after := _, guard := none }) (v := .slice (some ⟨B2, o', none⟩) (ts.length + 1) d) rfl (by kernel_rfl) (by kernel_rfl) (by kernel_rfl) (fun _ _ _ h => h) (Or.inl ⟨by rfl, fun X hX => by go_simp⟩) hH ?_
            simp only [Act.put, List.setIfInBounds_toArray, List.set_cons_succ, List.set_cons_zero]
            refine wpAnyH_take (i := 4) (oi := { dst := some 79, op := .slice 36 (.tmp 78) (some (.const (.int .i64 1))) none none, type := _, pos := _, after := _, guard := none }) (v := .slice (nxt B2 o' d) ts.length (d - 1)) rfl (by kernel_rfl) (by kernel_rfl) (by kernel_rfl) (fun _ _ _ h => h) (Or.inl ⟨by rfl, fun X hX => by unfold nxt; go_simp⟩) hH ?_
            simp only [Act.put, List.setIfInBounds_toArray, List.set_cons_succ, List.set_cons_zero]
            refine wpAnyH_ready (rs := [5]) (by kernel_rfl) (by simp) ?_
            refine AllReadyH.cons (o := { dst := none, op := .store 48 (.tmp 8) (.tmp 77), type := _, pos := _, after := _, guard := none }) rfl (fun K hK => ?_) AllReadyH.nil
            rw [if_pos (by rfl)]
            refine wp_store_mid 48 (.tmp 8) (.tmp 77) rfl N 0 t.cs.toArray rfl rfl (by rw [cs_size fb]; exact t2') (by rw [cs_size fb, info48]) (all_oneCell_toArray (els_one _ fb.1)) ?_
            obtain ⟨b3, r3, o3, z3⟩ := stored (W := (W2.drewN nq).drew) fb ⟨b2.os, b2.tape, b2.output, b2.size, b2.block⟩ t2' o2 (by omega) z2
            refine hK.out _ _ ⟨World.rangeAt_setCells_apart rE' _ _ _ (Or.inl (by omega)), World.there_setCells t2' _ _ _⟩ (fun hH => ?_)
            simp only [Act.put, List.setIfInBounds_toArray, List.set_cons_succ, List.set_cons_zero]
            refine wpAnyH_take (i := 6) (oi := { dst := some 1, op := .assign (.tmp 79), type := _, pos := _, after := _, guard := none }) (v := .slice (nxt B2 o' d) ts.length (d - 1)) rfl (by kernel_rfl) (by kernel_rfl) (by kernel_rfl) (fun _ _ _ h => h) (Or.inl ⟨by rfl, fun X hX => by go_simp⟩) hH ?_
            simp only [Act.put, List.setIfInBounds_toArray, List.set_cons_succ, List.set_cons_zero]
            refine wpAnyH_done (by kernel_rfl) ?_ _
            clear hK K hH rE' t2' t2 b2 z2 o2 rEa kEa cEa rEb kEb cEb
            show Exit.then _ _ _ _ ((W2.drewN nq).drew.setCells N 0 t.cs)
            generalize (W2.drewN nq).drew.setCells N 0 t.cs = V at *
            have hb1 := built1 t fb
            have jb := hR.jn
            have fi := hR.fits
            simp only [List.length_nil, List.length_cons] at fi
            have jl := fb.2
            go_wp2_with (first
              | (refine wpList_load_mid rfl 48 (.tmp 8) rfl N 0 rfl t.cs _ r3 Try.underlying48 rfl (by rw [info48, cs_len fb]) ?_)
              | (refine Go.Great.wpList_buildSliceTo rfl 36 48 1 _ rfl V.heap.size rfl (some 82) rfl Try.underlying36 t.cs.toArray (by simp only [List.map_toArray, List.map_cons, List.map_nil]; exact hb1) ?_)
              | (refine wpList_append_fits _ rfl (.tmp 80) (.tmp 82) 36 rfl g 48 i48 34 Try.underlying36 e1 e3 g os.length (xs.length + ys.length) (flat os) rfl (owns_block o3 (Below.heap_alloc _ _ _ (by omega))) ⟨V.heap.size, 0, none⟩ 1 1 t.cs rfl (by rw [cs_len fb]) (fun j u h => by rw [Addr.add_mid]; exact range_at rfl _ _ j u h) (els_one _ fb.1) (by omega) ?_; intro w4 o4 hgrow; have c4 : w4.cell? ⟨N, 1, none⟩ = some (.slice t.src.ja t.src.jl t.src.jc) := (Turned.range (Turned.of_grown hgrow) (World.rangeAt_alloc r3 _) (by simp; omega) (by omega)) 1 _ rfl; have b4 : Below g w w4 := (b3.alloc (by omega) _).grown hgrow (by simp; omega) (fun k h => by cases h; exact Nat.le_refl _); clear hgrow))
            go_roundw
            case rel =>
              refine ⟨(r :: rs), ts, os ++ [t], some ⟨B, o, none⟩, nxt B2 o' d, c, d - 1, rfl, rfl, by simp, ?_, hR.brought hB2 hE2 (mrg_gt El.k r t rs ts hL (beq_eq_false_iff_ne.1 hQ)), b4, ?_⟩
              · rw [Jn_snoc, Int.natCast_add]
              · rw [flat_snoc, List.length_append]; exact o4
            case measure => simp only [lenOf, List.length_nil, List.length_cons]; omega
          · go_quiet (fail)
            have i1a : ¬ ((rs.length : Int) + 1 < 1) := by omega
            go_wp2_with (refine Go.Great.wpList_runTo rfl (some 74) rfl (.slice (nxt B o c) rs.length (c - 1)) (W2.drewN nq) (by unfold nxt; go_simp) ?_)
            have i1b : ¬ ((ts.length : Int) + 1 < 1) := by omega
            have rE' : (W2.drewN nq).drew.rangeAt B2 o' t.cs := rEb
            have t2' : (W2.drewN nq).drew.there N 0 34 := t2
            refine wp_region_held_drew (S := fun X : World => X.rangeAt B2 o' t.cs ∧ X.there N 0 34) (by kernel_rfl) ⟨rE', t2'⟩ (fun hH => ?_)
            refine wpAnyH_take (i := 0) (oi := { dst := some 75, op := .move (.tmp 1), type := _, pos := _, after := _, guard := none }) (v := .slice (some ⟨B2, o', none⟩) (ts.length + 1) d) rfl (by kernel_rfl) (by kernel_rfl) (by kernel_rfl) (fun _ _ _ h => h) (Or.inl ⟨by rfl, fun X hX => by go_simp⟩) hH ?_
            simp only [Act.put, List.setIfInBounds_toArray, List.set_cons_succ, List.set_cons_zero]
            refine wpAnyH_take (i := 1) (oi := { dst := some 76, op := .indexAddr 36 (.tmp 75) (.const (.int .i64 0)), type := _, pos := _, after := _, guard := none }) (v := .pointer (some ⟨B2, o', none⟩)) rfl (by kernel_rfl) (by kernel_rfl) (by kernel_rfl) (fun _ _ _ h => h) (Or.inl ⟨by rfl, fun X hX => by go_simp⟩) hH ?_
            simp only [Act.put, List.setIfInBounds_toArray, List.set_cons_succ, List.set_cons_zero]
            refine wpAnyH_take (i := 2) (oi := { dst := some 77, op := .load 48 (.tmp 76), type := _, pos := _, after := _, guard := none }) (v := .agg t.cs.toArray) rfl (by kernel_rfl) (by kernel_rfl) (by kernel_rfl) (fun _ _ _ h => h) (yieldsIf_load_mid (by rfl) 48 (.tmp 76) rfl B2 o' rfl t.cs _ (fun X hX => hX.1) Try.underlying48 rfl (by rw [info48, cs_len fb])) hH ?_
            simp only [Act.put, List.setIfInBounds_toArray, List.set_cons_succ, List.set_cons_zero]
            refine wpAnyH_take (i := 3) (oi := { dst := some 78, op := .move (.tmp 1), type := _, pos := _, after := _, guard := none }) (v := .slice (some ⟨B2, o', none⟩) (ts.length + 1) d) rfl (by kernel_rfl) (by kernel_rfl) (by kernel_rfl) (fun _ _ _ h => h) (Or.inl ⟨by rfl, fun X hX => by go_simp⟩) hH ?_
            simp only [Act.put, List.setIfInBounds_toArray, List.set_cons_succ, List.set_cons_zero]
            refine wpAnyH_take (i := 4) (oi := { dst := some 79, op := .slice 36 (.tmp 78) (some (.const (.int .i64 1))) none none, type := _, pos := _, after := _, guard := none }) (v := .slice (nxt B2 o' d) ts.length (d - 1)) rfl (by kernel_rfl) (by kernel_rfl) (by kernel_rfl) (fun _ _ _ h => h) (Or.inl ⟨by rfl, fun X hX => by unfold nxt; go_simp⟩) hH ?_
            simp only [Act.put, List.setIfInBounds_toArray, List.set_cons_succ, List.set_cons_zero]
            refine wpAnyH_ready (rs := [5]) (by kernel_rfl) (by simp) ?_
            refine AllReadyH.cons (o := { dst := none, op := .store 48 (.tmp 8) (.tmp 77), type := _, pos := _, after := _, guard := none }) rfl (fun K hK => ?_) AllReadyH.nil
            rw [if_pos (by rfl)]
            refine wp_store_mid 48 (.tmp 8) (.tmp 77) rfl N 0 t.cs.toArray rfl rfl (by rw [cs_size fb]; exact t2') (by rw [cs_size fb, info48]) (all_oneCell_toArray (els_one _ fb.1)) ?_
            obtain ⟨b3, r3, o3, z3⟩ := stored (W := (W2.drewN nq).drew) fb ⟨b2.os, b2.tape, b2.output, b2.size, b2.block⟩ t2' o2 (by omega) z2
            refine hK.out _ _ ⟨World.rangeAt_setCells_apart rE' _ _ _ (Or.inl (by omega)), World.there_setCells t2' _ _ _⟩ (fun hH => ?_)
            simp only [Act.put, List.setIfInBounds_toArray, List.set_cons_succ, List.set_cons_zero]
            refine wpAnyH_take (i := 6) (oi := { dst := some 1, op := .assign (.tmp 79), type := _, pos := _, after := _, guard := none }) (v := .slice (nxt B2 o' d) ts.length (d - 1)) rfl (by kernel_rfl) (by kernel_rfl) (by kernel_rfl) (fun _ _ _ h => h) (Or.inl ⟨by rfl, fun X hX => by go_simp⟩) hH ?_
            simp only [Act.put, List.setIfInBounds_toArray, List.set_cons_succ, List.set_cons_zero]
            refine wpAnyH_done (by kernel_rfl) ?_ _
            clear hK K hH rE' t2' t2 b2 z2 o2 rEa kEa cEa rEb kEb cEb
            show Exit.then _ _ _ _ ((W2.drewN nq).drew.setCells N 0 t.cs)
            generalize (W2.drewN nq).drew.setCells N 0 t.cs = V at *
            have hb1 := built1 t fb
            have jb := hR.jn
            have fi := hR.fits
            simp only [List.length_nil, List.length_cons] at fi
            have jl := fb.2
            go_wp2_with (first
              | (refine wpList_load_mid rfl 48 (.tmp 8) rfl N 0 rfl t.cs _ r3 Try.underlying48 rfl (by rw [info48, cs_len fb]) ?_)
              | (refine Go.Great.wpList_buildSliceTo rfl 36 48 1 _ rfl V.heap.size rfl (some 82) rfl Try.underlying36 t.cs.toArray (by simp only [List.map_toArray, List.map_cons, List.map_nil]; exact hb1) ?_)
              | (refine wpList_append_fits _ rfl (.tmp 80) (.tmp 82) 36 rfl g 48 i48 34 Try.underlying36 e1 e3 g os.length (xs.length + ys.length) (flat os) rfl (owns_block o3 (Below.heap_alloc _ _ _ (by omega))) ⟨V.heap.size, 0, none⟩ 1 1 t.cs rfl (by rw [cs_len fb]) (fun j u h => by rw [Addr.add_mid]; exact range_at rfl _ _ j u h) (els_one _ fb.1) (by omega) ?_; intro w4 o4 hgrow; have c4 : w4.cell? ⟨N, 1, none⟩ = some (.slice t.src.ja t.src.jl t.src.jc) := (Turned.range (Turned.of_grown hgrow) (World.rangeAt_alloc r3 _) (by simp; omega) (by omega)) 1 _ rfl; have b4 : Below g w w4 := (b3.alloc (by omega) _).grown hgrow (by simp; omega) (fun k h => by cases h; exact Nat.le_refl _); clear hgrow))
            go_roundw
            case rel =>
              refine ⟨rs, ts, os ++ [t], nxt B o c, nxt B2 o' d, c - 1, d - 1, rfl, rfl, by simp, ?_, hR.skip hB hE hB2 hE2 (mrg_eq El.k r t rs ts (beq_iff_eq.1 hQ)), b4, ?_⟩
              · rw [Jn_snoc, Int.natCast_add]
              · rw [flat_snoc, List.length_append]; exact o4
            case measure => simp only [lenOf, List.length_nil, List.length_cons]; omega
        · go_quiet (fail)
          go_wp2_with fail
          have i1a : ¬ ((rs.length : Int) + 1 < 1) := by omega
          have rE' : (W.drewN nq).drew.rangeAt B o r.cs := rEa
          have t2' : (W.drewN nq).drew.there N 0 34 := t2
          refine wp_region_held_drew (S := fun X : World => X.rangeAt B o r.cs ∧ X.there N 0 34) (by kernel_rfl) ⟨rE', t2'⟩ (fun hH => ?_)
          refine wpAnyH_take (i := 0) (oi := { dst := some 48, op := .move (.tmp 0), type := _, pos := _, after := _, guard := none }) (v := .slice (some ⟨B, o, none⟩) (rs.length + 1) c) rfl (by kernel_rfl) (by kernel_rfl) (by kernel_rfl) (fun _ _ _ h => h) (Or.inl ⟨by rfl, fun X hX => by go_simp⟩) hH ?_
          simp only [Act.put, List.setIfInBounds_toArray, List.set_cons_succ, List.set_cons_zero]
          refine wpAnyH_take (i := 1) (oi := { dst := some 49, op := .indexAddr 36 (.tmp 48) (.const (.int .i64 0)), type := _, pos := _, after := _, guard := none }) (v := .pointer (some ⟨B, o, none⟩)) rfl (by kernel_rfl) (by kernel_rfl) (by kernel_rfl) (fun _ _ _ h => h) (Or.inl ⟨by rfl, fun X hX => by go_simp⟩) hH ?_
          simp only [Act.put, List.setIfInBounds_toArray, List.set_cons_succ, List.set_cons_zero]
          refine wpAnyH_take (i := 2) (oi := { dst := some 50, op := .load 48 (.tmp 49), type := _, pos := _, after := _, guard := none }) (v := .agg r.cs.toArray) rfl (by kernel_rfl) (by kernel_rfl) (by kernel_rfl) (fun _ _ _ h => h) (yieldsIf_load_mid (by rfl) 48 (.tmp 49) rfl B o rfl r.cs _ (fun X hX => hX.1) Try.underlying48 rfl (by rw [info48, cs_len fa])) hH ?_
          simp only [Act.put, List.setIfInBounds_toArray, List.set_cons_succ, List.set_cons_zero]
          refine wpAnyH_take (i := 3) (oi := { dst := some 51, op := .move (.tmp 0), type := _, pos := _, after := _, guard := none }) (v := .slice (some ⟨B, o, none⟩) (rs.length + 1) c) rfl (by kernel_rfl) (by kernel_rfl) (by kernel_rfl) (fun _ _ _ h => h) (Or.inl ⟨by rfl, fun X hX => by go_simp⟩) hH ?_
          simp only [Act.put, List.setIfInBounds_toArray, List.set_cons_succ, List.set_cons_zero]
          refine wpAnyH_take (i := 4) (oi := { dst := some 52, op := .slice 36 (.tmp 51) (some (.const (.int .i64 1))) none none, type := _, pos := _, after := _, guard := none }) (v := .slice (nxt B o c) rs.length (c - 1)) rfl (by kernel_rfl) (by kernel_rfl) (by kernel_rfl) (fun _ _ _ h => h) (Or.inl ⟨by rfl, fun X hX => by unfold nxt; go_simp⟩) hH ?_
          simp only [Act.put, List.setIfInBounds_toArray, List.set_cons_succ, List.set_cons_zero]
          refine wpAnyH_ready (rs := [5]) (by kernel_rfl) (by simp) ?_
          refine AllReadyH.cons (o := { dst := none, op := .store 48 (.tmp 8) (.tmp 50), type := _, pos := _, after := _, guard := none }) rfl (fun K hK => ?_) AllReadyH.nil
          rw [if_pos (by rfl)]
          refine wp_store_mid 48 (.tmp 8) (.tmp 50) rfl N 0 r.cs.toArray rfl rfl (by rw [cs_size fa]; exact t2') (by rw [cs_size fa, info48]) (all_oneCell_toArray (els_one _ fa.1)) ?_
          obtain ⟨b3, r3, o3, z3⟩ := stored (W := (W.drewN nq).drew) fa ⟨b2.os, b2.tape, b2.output, b2.size, b2.block⟩ t2' o2 (by omega) z2
          refine hK.out _ _ ⟨World.rangeAt_setCells_apart rE' _ _ _ (Or.inl (by omega)), World.there_setCells t2' _ _ _⟩ (fun hH => ?_)
          simp only [Act.put, List.setIfInBounds_toArray, List.set_cons_succ, List.set_cons_zero]
          refine wpAnyH_take (i := 6) (oi := { dst := some 0, op := .assign (.tmp 52), type := _, pos := _, after := _, guard := none }) (v := .slice (nxt B o c) rs.length (c - 1)) rfl (by kernel_rfl) (by kernel_rfl) (by kernel_rfl) (fun _ _ _ h => h) (Or.inl ⟨by rfl, fun X hX => by go_simp⟩) hH ?_
          simp only [Act.put, List.setIfInBounds_toArray, List.set_cons_succ, List.set_cons_zero]
          refine wpAnyH_done (by kernel_rfl) ?_ _
          clear hK K hH rE' t2' t2 b2 z2 o2 rEa kEa cEa rEb kEb cEb
          show Exit.then _ _ _ _ ((W.drewN nq).drew.setCells N 0 r.cs)
          generalize (W.drewN nq).drew.setCells N 0 r.cs = V at *
          have hb1 := built1 r fa
          have jb := hR.jn
          have fi := hR.fits
          simp only [List.length_nil, List.length_cons] at fi
          have jl := fa.2
          go_wp2_with (first
            | (refine wpList_load_mid rfl 48 (.tmp 8) rfl N 0 rfl r.cs _ r3 Try.underlying48 rfl (by rw [info48, cs_len fa]) ?_)
            | (refine Go.Great.wpList_buildSliceTo rfl 36 48 1 _ rfl V.heap.size rfl (some 82) rfl Try.underlying36 r.cs.toArray (by simp only [List.map_toArray, List.map_cons, List.map_nil]; exact hb1) ?_)
            | (refine wpList_append_fits _ rfl (.tmp 80) (.tmp 82) 36 rfl g 48 i48 34 Try.underlying36 e1 e3 g os.length (xs.length + ys.length) (flat os) rfl (owns_block o3 (Below.heap_alloc _ _ _ (by omega))) ⟨V.heap.size, 0, none⟩ 1 1 r.cs rfl (by rw [cs_len fa]) (fun j u h => by rw [Addr.add_mid]; exact range_at rfl _ _ j u h) (els_one _ fa.1) (by omega) ?_; intro w4 o4 hgrow; have c4 : w4.cell? ⟨N, 1, none⟩ = some (.slice r.src.ja r.src.jl r.src.jc) := (Turned.range (Turned.of_grown hgrow) (World.rangeAt_alloc r3 _) (by simp; omega) (by omega)) 1 _ rfl; have b4 : Below g w w4 := (b3.alloc (by omega) _).grown hgrow (by simp; omega) (fun k h => by cases h; exact Nat.le_refl _); clear hgrow))
          go_roundw
          case rel =>
            refine ⟨rs, (t :: ts), os ++ [r], nxt B o c, some ⟨B2, o', none⟩, c - 1, d, rfl, rfl, by simp, ?_, hR.kept hB hE (mrg_lt El.k r t rs ts hL), b4, ?_⟩
            · rw [Jn_snoc, Int.natCast_add]
            · rw [flat_snoc, List.length_append]; exact o4
          case measure => simp only [lenOf, List.length_nil, List.length_cons]; omega
end Go.Proofs.Qxb6615042a
