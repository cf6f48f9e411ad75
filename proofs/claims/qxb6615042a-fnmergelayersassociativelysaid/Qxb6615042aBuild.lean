/- zzBuildFlags: the flags handed, encoded into a new block. -/
import Derived.Test.Qxb6615042aSame
import Derived.OwnWalk
namespace Go.Proofs.Qxb6615042a
open Go.RowKit
set_option linter.unusedSimpArgs false

theorem info48z : ∃ (i : TypeInfo) (z : Value), Try.prog.info? 48 = some i ∧ i.zero = some z ∧ i.size = 34 ∧ i.bytes = 64 := by
  have h : (Try.prog.info? 48).map (fun i => (i.zero.isSome, i.size, i.bytes)) = some (true, 34, 64) := by kernel_rfl
  cases hq : Try.prog.info? 48 with
  | none => rw [hq] at h; cases h
  | some i =>
    rw [hq] at h
    simp only [Option.map_some, Option.some.injEq, Prod.mk.injEq] at h
    obtain ⟨h1, h2, h3⟩ := h
    obtain ⟨z, hz⟩ := Option.isSome_iff_exists.1 h1
    exact ⟨i, z, rfl, hz, h2, h3⟩
theorem there_own {w : World} {base g k cap : Nat} {xs : List Value} (h : w.ownsRow base 48 34 (.slice (some ⟨g, 0, none⟩) k cap) k xs) : w.there g 0 (cap * 34) ∧ g < w.heap.size := by
  obtain ⟨_, h⟩ := h
  rcases h with ⟨h, _⟩ | ⟨g', cap', cur, e, _, hg, _, _, hc, _⟩
  · cases h
  · cases e
    refine ⟨fun j hj => ?_, ?_⟩
    · constructor
      · rw [cell_of_row w g (0 + j) cur 48 (0, 0) hg]; simp; omega
      · simp only [World.frozen?, hg]; simp
    · rcases Nat.lt_or_ge g w.heap.size with h | h
      · exact h
      · rw [Array.getElem?_eq_none h] at hg; cases hg
theorem there_sub {w : World} {g n : Nat} (h : w.there g 0 n) (o m : Nat) (hm : o + m ≤ n) : w.there g o m := fun j hj => by
  have := h (o + j) (by omega)
  simpa using this
theorem Below.there {B : Nat} {w w' : World} (h : Below B w w') {b o n : Nat} (ht : w.there b o n) (hb : b < B) : w'.there b o n := fun j hj => by
  rw [World.cell?_of_block (w := w) (h.block b hb), World.frozen?_of_block (w := w) (h.block b hb)]
  exact ht j hj

/-- The first k elements of a block of encoded flags: where each flag lies, what it holds. -/
def Encs (w : World) (B k : Nat) (F : Nat → Nat) (p : Nat → Src) : Prop :=
  B < w.heap.size ∧ ∀ i, i < k → w.rangeAt B (i * 34) (els (F i) (p i)) ∧ w.cell? ⟨F i, 0, none⟩ = some (.string (p i).key) ∧ F i ≠ B ∧ F i < w.heap.size

theorem Encs.step {w x : World} {B k n fp : Nat} {F : Nat → Nat} {p : Nat → Src} (h : Encs w B k F p) (hb : Below w.heap.size w x) (ht : w.there B 0 (n * 34)) (hk : k < n) (hsum : ∀ i, i < n → SumOk (p i).sum)
    (f0 : w.heap.size ≤ fp) (f1 : fp < x.heap.size) (f2 : x.cell? ⟨fp, 0, none⟩ = some (.string (p k).key)) :
    (x.setCells B (k * 34) (els fp (p k))).there B 0 (n * 34) ∧ Encs (x.setCells B (k * 34) (els fp (p k))) B (k + 1) (fun i => if i = k then fp else F i) p := by
  obtain ⟨hB, hF⟩ := h
  have tx := Below.there hb ht hB
  refine ⟨World.there_setCells tx _ _ _, by rw [setCells_size]; exact Nat.lt_of_lt_of_le hB hb.size, fun i hi => ?_⟩
  by_cases e : i = k
  · subst e
    simp only [if_true]
    refine ⟨World.rangeAt_setCells_same _ _ _ _ ?_, ?_, by omega, by rw [setCells_size]; exact f1⟩
    · rw [els_len _ (hsum i hk)]; exact there_sub tx _ _ (by omega)
    · rw [World.cell?_setCells_out _ _ _ _ _ (fun e _ => absurd e (by simp; omega))]; exact f2
  · simp only [if_neg e]
    obtain ⟨h1, h2, h3, h4⟩ := hF i (by omega)
    refine ⟨World.rangeAt_setCells_apart (Below.range hb h1 hB) _ _ _ (Or.inr (Or.inl ?_)), ?_, h3, by rw [setCells_size]; exact Nat.lt_of_lt_of_le h4 hb.size⟩
    · rw [els_len _ (hsum i (by omega))]; omega
    · rw [World.cell?_setCells_out _ _ _ _ _ (fun e _ => absurd e (by simp; omega)), hb.cell h4]; exact h2

set_option maxRecDepth 100000 in
set_option maxHeartbeats 1600000 in
theorem build17 (a : Option Addr) (n c : Nat) (p : Nat → Src) (w : World) (hn : n ≤ 65536) (hs : Fls w a n p) (hsum : ∀ i, i < n → SumOk (p i).sum) :
    Calls Try.prog 17 #[.slice a n c] w fun e w' => Below w.heap.size w w' ∧ e = .returned (.slice (some ⟨w.heap.size, 0, none⟩) n n) ∧ ∃ F, Encs w' w.heap.size n F p := by
  obtain ⟨i48, z48, e1, e2, e3, e4⟩ := info48z
  go_enter Try.func17, Try.ntmps17
  go_wp2_with (refine wpList_make_full w rfl (.tmp 6) (.tmp 6) 36 rfl w.heap.size 48 i48 z48 34 Try.underlying36 e1 e2 e3 .i64 .i64 (n : Int) (n : Int) n rfl rfl rfl rfl (by rw [e4]; omega) (by unfold maxLen; omega) (Nat.le_refl _) ?_; intro w1 hown hg; have t1 := (there_own hown).1; have g1 := (there_own hown).2; have b1 : Below w.heap.size w w1 := (Below.refl _ _).grown hg (Nat.le_refl _) (fun k h => by cases h); clear hown hg)
  generalize hB : w.heap.size = B at *
  go_loopw [4] (fun i wr => ∃ k : Nat, k ≤ n ∧ i = .int .i64 k ∧ Below B w wr ∧ wr.there B 0 (n * 34) ∧ ∃ F, Encs wr B k F p) (fun i _ => n - (intOf i).toNat)
  case atStart => exact ⟨0, Nat.zero_le _, rfl, b1, t1, fun _ => 0, g1, fun i h => absurd h (Nat.not_lt_zero i)⟩
  case round =>
    obtain ⟨k, hk, rfl, bW, tW, F, gW, hF⟩ := hrel
    by_cases hlt : k < n
    · obtain ⟨b, o, rfl, hb, hc⟩ := hs (by omega)
      obtain ⟨d0, d1, d2⟩ := hc k hlt
      have hsk := hsum k hlt
      clear hc hs
      have i0 : (k : Int) < (n : Int) := by omega
      go_wp2_with fail
      have hbB : b < B := by rw [← hB]; exact hb
      have c0 : wr.cell? ⟨b, o + k * 34, none⟩ = some (.string (p k).key) := by rw [bW.cell hbB]; exact d0
      have c1 : wr.cell? ⟨b, o + k * 34 + 1, none⟩ = some (.slice (p k).ja (p k).jl (p k).jc) := by rw [bW.cell hbB]; exact d1
      have c2 : wr.rangeAt b (o + k * 34 + 2) (p k).sum := Below.range bW d2 hbB
      refine wp_region_held_drew (S := fun X : World => X.cell? ⟨b, o + k * 34, none⟩ = some (.string (p k).key) ∧ X.cell? ⟨b, o + k * 34 + 1, none⟩ = some (.slice (p k).ja (p k).jl (p k).jc) ∧ X.rangeAt b (o + k * 34 + 2) (p k).sum) (by kernel_rfl) ⟨c0, c1, by simpa using c2⟩ (fun hH => ?_)
      refine wpAnyH_take (i := 0) (oi := { dst := some 14, op := .move (.tmp 3), type := _, pos := _, after := _, guard := none }) (v := .slice (some ⟨B, 0, none⟩) n n) rfl (by kernel_rfl) (by kernel_rfl) (by kernel_rfl) (fun _ _ _ h => h) (Or.inl ⟨by rfl, fun X hX => by go_simp⟩) hH ?_
      simp only [Act.put, List.setIfInBounds_toArray, List.set_cons_succ, List.set_cons_zero]
      refine wpAnyH_take (i := 1) (oi := { dst := some 15, op := .move (.tmp 4), type := _, pos := _, after := _, guard := none }) (v := .int .i64 k) rfl (by kernel_rfl) (by kernel_rfl) (by kernel_rfl) (fun _ _ _ h => h) (Or.inl ⟨by rfl, fun X hX => by go_simp⟩) hH ?_
      simp only [Act.put, List.setIfInBounds_toArray, List.set_cons_succ, List.set_cons_zero]
      refine wpAnyH_take (i := 2) (oi := { dst := some 16, op := .move (.tmp 0), type := _, pos := _, after := _, guard := none }) (v := .slice (some ⟨b, o, none⟩) n c) rfl (by kernel_rfl) (by kernel_rfl) (by kernel_rfl) (fun _ _ _ h => h) (Or.inl ⟨by rfl, fun X hX => by go_simp⟩) hH ?_
      simp only [Act.put, List.setIfInBounds_toArray, List.set_cons_succ, List.set_cons_zero]
      refine wpAnyH_take (i := 3) (oi := { dst := some 17, op := .move (.tmp 4), type := _, pos := _, after := _, guard := none }) (v := .int .i64 k) rfl (by kernel_rfl) (by kernel_rfl) (by kernel_rfl) (fun _ _ _ h => h) (Or.inl ⟨by rfl, fun X hX => by go_simp⟩) hH ?_
      simp only [Act.put, List.setIfInBounds_toArray, List.set_cons_succ, List.set_cons_zero]
      refine wpAnyH_take (i := 4) (oi := { dst := some 18, op := .indexAddr 32 (.tmp 16) (.tmp 17), type := _, pos := _, after := _, guard := none }) (v := .pointer (some ⟨b, o + k * 34, none⟩)) rfl (by kernel_rfl) (by kernel_rfl) (by kernel_rfl) (fun _ _ _ h => h) (Or.inl ⟨by rfl, fun X hX => by go_simp⟩) hH ?_
      simp only [Act.put, List.setIfInBounds_toArray, List.set_cons_succ, List.set_cons_zero]
      refine wpAnyH_take (i := 5) (oi := { dst := some 19, op := .fieldAddr 56 (.tmp 18) 0, type := _, pos := _, after := _, guard := none }) (v := .pointer (some ⟨b, o + k * 34, none⟩)) rfl (by kernel_rfl) (by kernel_rfl) (by kernel_rfl) (fun _ _ _ h => h) (Or.inl ⟨by rfl, fun X hX => by go_simp⟩) hH ?_
      simp only [Act.put, List.setIfInBounds_toArray, List.set_cons_succ, List.set_cons_zero]
      refine wpAnyH_take (i := 6) (oi := { dst := some 20, op := .load 9 (.tmp 19), type := _, pos := _, after := _, guard := none }) (v := .string (p k).key) rfl (by kernel_rfl) (by kernel_rfl) (by kernel_rfl) (fun _ _ _ h => h) (Or.inl ⟨by rfl, fun X hX => by obtain ⟨x0, _, _⟩ := hX; go_simp⟩) hH ?_
      simp only [Act.put, List.setIfInBounds_toArray, List.set_cons_succ, List.set_cons_zero]
      refine wpAnyH_take (i := 7) (oi := { dst := some 21, op := .move (.tmp 0), type := _, pos := _, after := _, guard := none }) (v := .slice (some ⟨b, o, none⟩) n c) rfl (by kernel_rfl) (by kernel_rfl) (by kernel_rfl) (fun _ _ _ h => h) (Or.inl ⟨by rfl, fun X hX => by go_simp⟩) hH ?_
      simp only [Act.put, List.setIfInBounds_toArray, List.set_cons_succ, List.set_cons_zero]
      refine wpAnyH_take (i := 8) (oi := { dst := some 22, op := .move (.tmp 4), type := _, pos := _, after := _, guard := none }) (v := .int .i64 k) rfl (by kernel_rfl) (by kernel_rfl) (by kernel_rfl) (fun _ _ _ h => h) (Or.inl ⟨by rfl, fun X hX => by go_simp⟩) hH ?_
      simp only [Act.put, List.setIfInBounds_toArray, List.set_cons_succ, List.set_cons_zero]
      refine wpAnyH_take (i := 9) (oi := { dst := some 23, op := .indexAddr 32 (.tmp 21) (.tmp 22), type := _, pos := _, after := _, guard := none }) (v := .pointer (some ⟨b, o + k * 34, none⟩)) rfl (by kernel_rfl) (by kernel_rfl) (by kernel_rfl) (fun _ _ _ h => h) (Or.inl ⟨by rfl, fun X hX => by go_simp⟩) hH ?_
      simp only [Act.put, List.setIfInBounds_toArray, List.set_cons_succ, List.set_cons_zero]
      refine wpAnyH_take (i := 10) (oi := { dst := some 24, op := .fieldAddr 56 (.tmp 23) 1, type := _, pos := _, after := _, guard := none }) (v := .pointer (some ⟨b, o + k * 34 + 1, none⟩)) rfl (by kernel_rfl) (by kernel_rfl) (by kernel_rfl) (fun _ _ _ h => h) (Or.inl ⟨by rfl, fun X hX => by go_simp⟩) hH ?_
      simp only [Act.put, List.setIfInBounds_toArray, List.set_cons_succ, List.set_cons_zero]
      refine wpAnyH_take (i := 11) (oi := { dst := some 25, op := .load 43 (.tmp 24), type := _, pos := _, after := _, guard := none }) (v := .slice (p k).ja (p k).jl (p k).jc) rfl (by kernel_rfl) (by kernel_rfl) (by kernel_rfl) (fun _ _ _ h => h) (Or.inl ⟨by rfl, fun X hX => by obtain ⟨_, x1, _⟩ := hX; go_simp⟩) hH ?_
      simp only [Act.put, List.setIfInBounds_toArray, List.set_cons_succ, List.set_cons_zero]
      refine wpAnyH_take (i := 12) (oi := { dst := some 26, op := .move (.tmp 0), type := _, pos := _, after := _, guard := none }) (v := .slice (some ⟨b, o, none⟩) n c) rfl (by kernel_rfl) (by kernel_rfl) (by kernel_rfl) (fun _ _ _ h => h) (Or.inl ⟨by rfl, fun X hX => by go_simp⟩) hH ?_
      simp only [Act.put, List.setIfInBounds_toArray, List.set_cons_succ, List.set_cons_zero]
      refine wpAnyH_take (i := 13) (oi := { dst := some 27, op := .move (.tmp 4), type := _, pos := _, after := _, guard := none }) (v := .int .i64 k) rfl (by kernel_rfl) (by kernel_rfl) (by kernel_rfl) (fun _ _ _ h => h) (Or.inl ⟨by rfl, fun X hX => by go_simp⟩) hH ?_
      simp only [Act.put, List.setIfInBounds_toArray, List.set_cons_succ, List.set_cons_zero]
      refine wpAnyH_take (i := 14) (oi := { dst := some 28, op := .indexAddr 32 (.tmp 26) (.tmp 27), type := _, pos := _, after := _, guard := none }) (v := .pointer (some ⟨b, o + k * 34, none⟩)) rfl (by kernel_rfl) (by kernel_rfl) (by kernel_rfl) (fun _ _ _ h => h) (Or.inl ⟨by rfl, fun X hX => by go_simp⟩) hH ?_
      simp only [Act.put, List.setIfInBounds_toArray, List.set_cons_succ, List.set_cons_zero]
      refine wpAnyH_take (i := 15) (oi := { dst := some 29, op := .fieldAddr 56 (.tmp 28) 2, type := _, pos := _, after := _, guard := none }) (v := .pointer (some ⟨b, o + k * 34 + 2, none⟩)) rfl (by kernel_rfl) (by kernel_rfl) (by kernel_rfl) (fun _ _ _ h => h) (Or.inl ⟨by rfl, fun X hX => by go_simp⟩) hH ?_
      simp only [Act.put, List.setIfInBounds_toArray, List.set_cons_succ, List.set_cons_zero]
      refine wpAnyH_take (i := 16) (oi := { dst := some 30, op := .load 44 (.tmp 29), type := _, pos := _, after := _, guard := none }) (v := .agg (p k).sum.toArray) rfl (by kernel_rfl) (by kernel_rfl) (by kernel_rfl) (fun _ _ _ h => h) (yieldsIf_load_mid (by rfl) 44 (.tmp 29) rfl b (o + k * 34 + 2) rfl (p k).sum _ (fun X hX => hX.2.2) Try.underlying44 rfl (by rw [info44, hsk.1])) hH ?_
      simp only [Act.put, List.setIfInBounds_toArray, List.set_cons_succ, List.set_cons_zero]
      refine wpAnyH_ready (rs := [17]) (by kernel_rfl) (by simp) ?_
      refine AllReadyH.cons (o := { dst := some 31, op := .call { callee := .value (.func 28), args := #[.tmp 20, .tmp 25, .tmp 30], argTypes := #[9, 43, 44] }, type := _, pos := _, after := _, guard := none }) rfl (fun K hK => ?_) AllReadyH.nil
      go_simp
      refine (make28 (p k) _ hsk).mono ?_
      rintro e X ⟨bX, fp, f0, f1, rfl, f2⟩
      have bX' : Below wr.heap.size wr X := ⟨bX.os, bX.tape, bX.output, bX.size, bX.block⟩
      have hbw : b < wr.heap.size := Nat.lt_of_lt_of_le hbB (Nat.le_of_lt gW)
      obtain ⟨tE, hE⟩ := Encs.step ⟨gW, hF⟩ bX' tW hlt hsum f0 f1 f2
      have tk : X.there B (k * 34) 34 := there_sub (Below.there bX' tW gW) _ _ (by omega)
      have bE : Below B w (X.setCells B (k * 34) (els fp (p k))) := bW.trans ((bX'.mono (Nat.le_of_lt gW)).trans ((Turned.setCells (S := fun q => q = B) rfl _ _ _ (Turned.refl _ _)).below (B := B) (Nat.le_trans (Nat.le_of_lt gW) bX'.size) (fun q h => Nat.le_of_eq h.symm)))
      refine hK.out _ _ ⟨by rw [bX'.cell hbw]; exact c0, by rw [bX'.cell hbw]; exact c1, Below.range bX' c2 hbw⟩ (fun hH => ?_)
      refine wpAnyH_take (i := 18) (oi := { dst := some 32, op := .indexAddr 36 (.tmp 14) (.tmp 15), type := _, pos := _, after := _, guard := none }) (v := .pointer (some ⟨B, k * 34, none⟩)) rfl (by kernel_rfl) (by kernel_rfl) (by kernel_rfl) (fun _ _ _ h => h) (Or.inl ⟨by rfl, fun X hX => by go_simp⟩) hH ?_
      simp only [Act.put, List.setIfInBounds_toArray, List.set_cons_succ, List.set_cons_zero]
      refine wpAnyH_ready (rs := [19]) (by kernel_rfl) (by simp) ?_
      refine AllReadyH.cons (o := { dst := none, op := .store 48 (.tmp 32) (.tmp 31), type := _, pos := _, after := _, guard := none }) rfl (fun K hK => ?_) AllReadyH.nil
      rw [if_pos (by rfl)]
      refine wp_store_mid 48 (.tmp 32) (.tmp 31) rfl B (k * 34) (els fp (p k)).toArray rfl rfl (by rw [els_size _ hsk]; exact tk) (by rw [els_size _ hsk, info48]) (all_oneCell_toArray (els_one _ hsk)) ?_
      refine hK.out _ _ ?_ (fun hH => ?_)
      · exact ⟨by rw [World.cell?_setCells_out _ _ _ _ _ (fun e _ => absurd e (by simp; omega)), bX'.cell hbw]; exact c0, by rw [World.cell?_setCells_out _ _ _ _ _ (fun e _ => absurd e (by simp; omega)), bX'.cell hbw]; exact c1, World.rangeAt_setCells_apart (Below.range bX' c2 hbw) _ _ _ (Or.inl (by omega))⟩
      refine wpAnyH_done (by kernel_rfl) ?_ _
      simp only [Act.put, List.setIfInBounds_toArray, List.set_cons_succ, List.set_cons_zero]
      clear hK K hH c0 c1 c2 d0 d1 d2 tk f2 bX tW hF bW
      show Exit.inBlock 1 _ _ _ (X.setCells B (k * 34) (els fp (p k)))
      generalize X.setCells B (k * 34) (els fp (p k)) = Y at *
      go_wp2
      go_roundw
      case rel => exact ⟨k + 1, hlt, by go_num, bE, tE, _, hE⟩
      case measure => simp [intOf]; omega
    · obtain rfl : k = n := by omega
      go_wp2
      go_ret
      rw [hB]
      exact ⟨bW, rfl, F, gW, hF⟩
end Go.Proofs.Qxb6615042a
