/- One encoded flag made; two that are the same. -/
import Derived.Test.Qxb6615042aEnc
import Derived.ChangeKeysEq
import Derived.Laws.StructEq
import Derived.LaidEqlPtr
namespace Go.Proofs.Qxb6615042a
open Go.RowKit

theorem there_at {w : World} {N : Nat} (hN : w.heap.size = N) (cs : Array Value) (t : TypeId) (n : Nat) (h : n ≤ cs.size) : (w.alloc (.cells cs t)).there N 0 n := by
  subst hN; exact there_new w cs t n h
theorem cell_at {w : World} {N : Nat} (hN : w.heap.size = N) (cs : Array Value) (t : TypeId) (i : Nat) (v : Value) (h : cs[i]? = some v) : (w.alloc (.cells cs t)).cell? ⟨N, i, none⟩ = some v := by
  subst hN
  rw [cell_of_row _ _ _ cs t (0, 0) (heap_alloc_new w _)]
  exact h
theorem range_at {w : World} {N : Nat} (hN : w.heap.size = N) (cs : List Value) (t : TypeId) : (w.alloc (.cells cs.toArray t)).rangeAt N 0 cs := by
  subst hN; exact range_new w cs t 0 cs (fun j v h => by simpa using h)

/-- The cells of one encoded flag. -/
def els (fp : Nat) (s : Src) : List Value := .pointer (some ⟨fp, 0, none⟩) :: .slice s.ja s.jl s.jc :: s.sum
theorem els_len (fp : Nat) {s : Src} (h : SumOk s.sum) : (els fp s).length = 34 := by simp [els, h.1]
theorem els_size (fp : Nat) {s : Src} (h : SumOk s.sum) : (els fp s).toArray.size = 34 := by simp [els, h.1]
theorem els_one (fp : Nat) {s : Src} (h : SumOk s.sum) : ∀ v ∈ els fp s, v.oneCell' = true := fun v hv => by
  rcases List.mem_cons.1 hv with rfl | hv
  · rfl
  · rcases List.mem_cons.1 hv with rfl | hv
    · rfl
    · exact h.one v hv

set_option maxRecDepth 100000 in
theorem make28 (p : Src) (w : World) (hs : SumOk p.sum) :
    Calls Try.prog 28 #[.string p.key, .slice p.ja p.jl p.jc, .agg p.sum.toArray] w fun e w' => Below w.heap.size w w' ∧ ∃ fp, w.heap.size ≤ fp ∧ fp < w'.heap.size ∧
      e = .returned (.agg (els fp p).toArray) ∧ w'.cell? ⟨fp, 0, none⟩ = some (.string p.key) := by
  go_enter Try.func28, Try.ntmps28
  have hb := build48 (some ⟨w.heap.size + 1 + 1, 0, none⟩) p.ja p.jl p.jc p.sum hs.1
  go_wp2_with (first
    | (refine wpList_load_mid rfl 44 (.tmp 5) rfl w.heap.size 0 rfl p.sum _ (World.rangeAt_alloc (World.rangeAt_alloc (range_new w p.sum 44 0 p.sum (fun j v h => by simpa using h)) _) _) Try.underlying44 rfl (by rw [info44, hs.1]) ?_)
    | (refine wpList_buildTo rfl 48 _ rfl (some 12) rfl (els (w.heap.size + 1 + 1) p).toArray (by simp only [List.map_toArray, List.map_cons, List.map_nil]; exact hb) ?_)
    | (refine wpList_store_mid rfl 48 (.tmp 6) (.tmp 12) rfl (w.heap.size + 1) 0 _ rfl rfl ?_ ?_ ?_ ?_))
  · rw [els_size _ hs]
    exact World.there_alloc (there_at (by simp) _ _ _ (by simp)) _
  · rw [els_size _ hs, info48]
  · exact all_oneCell_toArray (els_one _ hs)
  · refine bodyPost_ret (results_c rfl _ _ _ ⟨w.heap.size + 1, 0, none⟩ (.agg (els (w.heap.size + 1 + 1) p).toArray) rfl (loadv48 (World.rangeAt_setCells_same _ _ _ _ ?_) (els_len _ hs))) rfl ⟨?_, w.heap.size + 1 + 1, by omega, ?_, rfl, ?_⟩
    · rw [els_len _ hs]
      exact World.there_alloc (there_at (by simp) _ _ _ (by simp)) _
    · exact ((((Below.refl _ _).alloc (Nat.le_refl _) _).alloc (by simp) _).alloc (by simp; omega) _).trans ((Turned.setCells (S := fun k => k = w.heap.size + 1) rfl _ 0 _ (Turned.refl _ _)).below (B := w.heap.size) (by simp; omega) (fun k h => by omega))
    · rw [setCells_size]; simp
    · rw [World.cell?_setCells_out _ _ _ _ _ (fun e _ => absurd e (by simp))]
      exact cell_at (by simp) _ _ _ _ rfl
theorem info5 : (Try.prog.info? 5).map (fun i => (i.size, i.desc)) = some (1, .int .u8) := by kernel_rfl
theorem cells5 : Try.prog.cellsOf 5 = 1 := by kernel_rfl
theorem eqItems_self (w : World) (d : Nat) (s : List Value) (hs : SumOk s) : ∀ (is : List Nat), (∀ i ∈ is, i < 32) → (Op.eqItems (d + 1) 5 (Try.prog.cellsOf 5) s.toArray s.toArray is).run Try.prog w = .ok true w
  | [], _ => by simp [Op.eqItems]
  | i :: is, h => by
    have hi : i < s.length := by rw [hs.1]; exact h i (List.mem_cons_self ..)
    obtain ⟨v, hv⟩ := hs.2 s[i] (List.getElem_mem hi)
    have hp : (part 5 s.toArray (i * Try.prog.cellsOf 5)).run Try.prog w = .ok (.int .u8 v) w := by
      have e : s[i]? = some (.int .u8 v) := by rw [List.getElem?_eq_getElem hi, hv]
      simp [part, isAgg, run_underlying Try.underlying5, cells5, e]
    simp only [Op.eqItems, Sem.run_bind, hp, Result.andThen_ok, run_equalIn_int w d 5 .u8 .u8 v v Try.underlying5]
    simpa using eqItems_self w d s hs is (fun j hj => h j (List.mem_cons_of_mem _ hj))
theorem eql44 (w : World) (s : List Value) (hs : SumOk s) : (binOp .eql 44 (.agg s.toArray) (.agg s.toArray)).run Try.prog w = .ok (.bool true) w := by
  obtain ⟨i, hi⟩ : ∃ i, Try.prog.info? 5 = some i := by
    cases h : Try.prog.info? 5 with
    | none => have := info5; rw [h] at this; cases this
    | some i => exact ⟨i, rfl⟩
  rw [run_eql_struct, show (10000 : Nat) = 9998 + 1 + 1 from rfl, run_equalIn_array w (9998 + 1) s.toArray s.toArray Try.underlying44 hi, eqItems_self w 9998 s hs _ (fun i hi => List.mem_range.1 hi)]
  rfl
theorem wpl_store44 {ops : Array Oper} {rest : List Oper} {op : Oper} {a : Act} {w : World} {Q : Exit → Act → World → Prop} (hgd : op.guard = none) (x y : Operand) (ho : op.op = .store 44 x y)
    (b : Nat) (s : List Value) (hx : a.eval x = .pointer (some ⟨b, 0, none⟩)) (hy : a.eval y = .agg s.toArray) (ht : w.there b 0 32) (hs : SumOk s)
    (h : ∀ w', w'.rangeAt b 0 s → Turned (fun k => k = b) w w' → wpList Try.prog ops Q rest (a.put op.dst undef) w') : wpList Try.prog ops Q (op :: rest) a w := by
  refine wpList_store_mid hgd 44 x y ho b 0 s.toArray hx hy ?_ ?_ (all_oneCell_toArray hs.one) ?_
  · rw [List.size_toArray, hs.1]; exact ht
  · rw [List.size_toArray, hs.1, info44]
  · exact h _ (World.rangeAt_setCells_same _ _ _ _ (by rw [hs.1]; exact ht)) (Turned.setCells (S := fun k => k = b) rfl _ 0 _ (Turned.refl _ _))
theorem wpl_load44g {ops : Array Oper} {rest : List Oper} {op : Oper} {a : Act} {w : World} {Q : Exit → Act → World → Prop} (x : Operand) (ho : op.op = .load 44 x) (hw : Region.wanted op (yielded ops a.tmps) = true)
    (b : Nat) (s : List Value) (hx : a.eval x = .pointer (some ⟨b, 0, none⟩)) (hc : w.rangeAt b 0 s) (hs : SumOk s)
    (h : wpList Try.prog ops Q rest (a.put op.dst (.agg s.toArray)) w) : wpList Try.prog ops Q (op :: rest) a w :=
  wpList_step fun K hK => by
    rw [if_pos hw]
    exact wp_load_mid 44 x ho b 0 hx s _ hc Try.underlying44 rfl (by rw [info44, hs.1]) (hK _ _ h)
theorem eql42 (w : World) (a : Addr) : (binOp .eql 42 (.pointer (some a)) (.pointer (some a))).run Try.prog w = .ok (.bool true) w := by
  obtain ⟨i, hi⟩ : ∃ i, Try.prog.info? 51 = some i := by
    cases h : Try.prog.info? 51 with
    | none => have : (Try.prog.info? 51).isSome = true := by kernel_rfl
              rw [h] at this; cases this
    | some i => exact ⟨i, rfl⟩
  exact run_eql_ptr_same w a Try.underlying42 hi
theorem Bys.below {B : Nat} {w w' : World} {a : Option Addr} {n : Nat} (h : Bys w a n) (hb : Below B w w') (hB : w.heap.size ≤ B) : Bys w' a n := fun hn => by
  obtain ⟨b, o, rfl, hlt, hc⟩ := h hn
  refine ⟨b, o, rfl, Nat.lt_of_lt_of_le hlt hb.size, fun i hi => ?_⟩
  obtain ⟨v, hv⟩ := hc i hi
  exact ⟨v, by rw [World.cell?_of_block (w := w) (hb.block b (by omega))]; exact hv⟩

set_option maxRecDepth 100000 in
set_option maxHeartbeats 1600000 in
theorem same22 (fp : Nat) (p : Src) (w : World) (hs : SumOk p.sum) (hj : p.jl ≤ 1048576) (hb : Bys w p.ja p.jl) :
    Calls Try.prog 22 #[.agg (els fp p).toArray, .agg (els fp p).toArray] w fun e w' => e = .returned (.bool true) ∧ Below w.heap.size w w' := by
  have hE := els_len fp hs
  have r1 : ((w.alloc (.cells (els fp p).toArray 48)).alloc (.cells (els fp p).toArray 48)).rangeAt w.heap.size 0 (els fp p) := World.rangeAt_alloc (range_at rfl _ _) _
  have r2 : ((w.alloc (.cells (els fp p).toArray 48)).alloc (.cells (els fp p).toArray 48)).rangeAt (w.heap.size + 1) 0 (els fp p) := range_at (by simp) _ _
  have b0 : Below w.heap.size w ((w.alloc (.cells (els fp p).toArray 48)).alloc (.cells (els fp p).toArray 48)) := ((Below.refl _ _).alloc (Nat.le_refl _) _).alloc (by simp) _
  have z0 : w.heap.size + 2 ≤ ((w.alloc (.cells (els fp p).toArray 48)).alloc (.cells (els fp p).toArray 48)).heap.size := by simp
  go_enter Try.func22, Try.ntmps22
  go_wp2_with (refine wpList_load_mid rfl 48 (.tmp 2) rfl w.heap.size 0 rfl (els fp p) _ r1 Try.underlying48 rfl (by rw [info48, hE]) ?_)
  generalize (w.alloc (.cells (els fp p).toArray 48)).alloc (.cells (els fp p).toArray 48) = W at *
  refine (parts20 _ _ p.sum _ hs).mono ?_
  rintro e W1 ⟨rfl, b1⟩
  have r2a : W1.rangeAt (w.heap.size + 1) 0 (els fp p) := Below.range b1 r2 (by omega)
  have s1 := b1.size
  go_wp2_with (first
    | (refine wpl_store44 rfl (.tmp 7) (.tmp 16) rfl W1.heap.size p.sum rfl rfl (there_at rfl _ _ _ (by simp)) hs ?_; intro W2 r3 t3; have b2 : Below W1.heap.size W1 W2 := ((Below.refl _ _).alloc (Nat.le_refl _) _).trans (t3.below (by simp) (fun k h => by omega)); have z2 : W1.heap.size + 1 ≤ W2.heap.size := Nat.le_trans (by simp) t3.size; have r2b : W2.rangeAt (w.heap.size + 1) 0 (els fp p) := Below.range b2 r2a (by omega); clear t3)
    | (refine wpList_load_mid rfl 48 (.tmp 3) rfl (w.heap.size + 1) 0 rfl (els fp p) _ r2b Try.underlying48 rfl (by rw [info48, hE]) ?_))
  refine (parts20 _ _ p.sum _ hs).mono ?_
  rintro e W3 ⟨rfl, b3⟩
  have q42 := fun w => eql42 w ⟨fp, 0, none⟩
  have q44 := fun w => eql44 w p.sum hs
  have s2 := b2.size
  have s3 := b3.size
  go_wp2_with (first
    | (refine wpl_store44 rfl (.tmp 10) (.tmp 22) rfl W3.heap.size p.sum rfl rfl (there_at rfl _ _ _ (by simp)) hs ?_; intro W4 r5 t5; have b4 : Below W3.heap.size W3 W4 := ((Below.refl _ _).alloc (Nat.le_refl _) _).trans (t5.below (by simp) (fun k h => by omega)); clear t5))
  have s4 := b4.size
  have bb : Below w.heap.size w W4 := b0.trans ((b1.mono (by omega)).trans ((b2.mono (by omega)).trans ((b3.mono (by omega)).trans (b4.mono (by omega)))))
  have r3a : W4.rangeAt W1.heap.size 0 p.sum := Below.range b4 (Below.range b3 r3 (by omega)) (by omega)
  refine (beq30 p.ja p.jl p.jc W4 hj (hb.below bb (Nat.le_refl _))).mono ?_
  rintro e W5 ⟨rfl, m, rfl⟩
  have r3b : (W4.drewN m).rangeAt W1.heap.size 0 p.sum := r3a
  have r5b : (W4.drewN m).rangeAt W3.heap.size 0 p.sum := r5
  go_wp2_with (first
    | (refine wpl_load44g (.tmp 7) rfl (by rfl) W1.heap.size p.sum rfl r3b hs ?_)
    | (refine wpl_load44g (.tmp 10) rfl (by rfl) W3.heap.size p.sum rfl r5b hs ?_))
  go_ret
  exact ⟨rfl, Below.drewN bb m⟩

end Go.Proofs.Qxb6615042a
