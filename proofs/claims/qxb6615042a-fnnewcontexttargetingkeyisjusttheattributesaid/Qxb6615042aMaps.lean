/- flags.Context: a map of strings to strings held in 'any': what it holds, maps.Copy, NewContext, the thin exports. -/
import Derived.Test.Qxb6615042aStrs
import Derived.Maps.OwnSet
import Derived.Maps.RangeWalk
import Derived.Maps.Ext
namespace Go.Proofs.Qxb6615042a
open Go.RowKit Go.Maps

theorem law9 : Keyed Try.prog 9 := string_keyed Try.underlying9
theorem zero20 (w : World) : (zeroValue 20).run Try.prog w = .ok .nilIface w := by kernel_rfl
theorem mk26 (m : Int) (w : World) : (Instr.makeMap 26 (some (.int .i64 m))).run Try.prog w = .ok (.map (some w.heap.size)) (w.alloc (.map #[] 0)) := by
  simp [Instr.makeMap, run_underlying Try.underlying26, asInt, asIntOf]
theorem mk27 (m : Int) (w : World) : (Instr.makeMap 27 (some (.int .i64 m))).run Try.prog w = .ok (.map (some w.heap.size)) (w.alloc (.map #[] 0)) := by
  simp [Instr.makeMap, run_underlying Try.underlying27, asInt, asIntOf]

theorem Turned.grown {S : Nat → Prop} {a w w' : World} {r : Nat} (h : Turned S a w) (hg : w.grownBy w' (some r)) (hr : a.heap.size ≤ r ∨ S r) : Turned S a w' :=
  ⟨hg.os.trans h.os, hg.tape.trans h.tape, hg.output.trans h.output, Nat.le_trans h.size hg.size, fun k hk hS =>
    (hg.block k (Nat.lt_of_lt_of_le hk h.size) (fun e => by injection e with e; subst e; rcases hr with h1 | h1; omega; exact hS h1)).trans (h.block k hk hS)⟩
theorem Turned.map {H : Type} {S : Nat → Prop} {w w' : World} (h : Turned S w w') {k : TypeId} {R : Value → Option (DataW H × List MemPlace)} {b n : Nat} {D : DataW H} (ho : w.ownsMap Try.prog k R b n D) (hS : ¬ S b) : w'.ownsMap Try.prog k R b n D := by
  have hlt := ho.lt
  obtain ⟨es, clock, hb, q⟩ := ho
  exact ⟨es, clock, (h.block b hlt hS).trans hb, q⟩

set_option maxRecDepth 100000 in
theorem copy27_any {H : Type} (R : Value → Option (DataW H × List MemPlace)) (bo b n : Nat) (D0 : DataW H) (w : World) (hown : w.ownsMap Try.prog 9 R b n D0) (hdst : w.ownsMap Try.prog 9 R bo 0 (.map [])) (hne : bo ≠ b) (hmax : Maps.size D0 ≤ maxLen) :
    Calls Try.prog 27 #[.map (some bo), .map (some b)] w fun e w' => e = .returned (.tuple #[]) ∧ w'.ownsMap Try.prog 9 R bo (Maps.size D0) D0 ∧ w'.ownsMap Try.prog 9 R b n D0 ∧ Turned (fun k => k = bo) w w' := by
  have hbl := hown.lt
  have hbol := hdst.lt
  go_enter Try.func27, Try.ntmps27
  go_wp2_with (first
    | (at_range; refine wpList_range_own _ rfl _ 26 rfl 9 20 law9 Try.underlying26 _ b n _ rfl hown ?_; intro w0 hrg0 hg0 hs0)
    | go_in)
  go_frame
  go_loopw [4] (fun _ wr => ∃ (left : Lit → Bool) (cnt : Nat) (Dout : DataW H), wr.ranges Try.prog 9 R b w.heap.size n D0 left cnt ∧ cnt ≤ Maps.size D0 ∧
      wr.ownsMap Try.prog 9 R bo (Maps.size D0 - cnt) Dout ∧ Agree Dout D0 left ∧ Turned (fun k => k = bo) w wr)
    (fun _ wr => wr.rangeLeft b w.heap.size)
  case atStart =>
    exact ⟨_, _, .map [], hrg0, Nat.le_refl _, (hdst.kept hg0 (by simp)).mono (Nat.zero_le _), agree_start D0, ⟨hg0.os, hg0.tape, hg0.output, hg0.size, fun k hk _ => hg0.block k hk (by simp)⟩⟩
  case round =>
    obtain ⟨left, cnt, Dout, hrg, hcs, hout, hA, ht⟩ := hrel
    go_wp2_with (first
      | (at_next; refine wpList_next_ranges _ rfl _ rfl 9 law9 R (fun x : Value => x) (fun x : Value => x) (fun key _ _ => ⟨key, rfl⟩) (fun v _ _ => ⟨v, rfl⟩) b w.heap.size n _ _ _ rfl hrg ?_ ?_)
      | go_in)
    · intro hc0 hl0
      go_wp2
      go_end0
      subst hc0
      have e := agree_end hA hl0 (hout.canon law9) (hown.canon law9)
      subst e
      exact ⟨rfl, by simpa using hout, ht.map hown (fun e => hne e.symm), ht⟩
    · intro x c kl y1 y2 w1 cnt1 hkey hlx hv hat hrg1 hlt hg1 hs1 hen
      have hout1 := hout.kept hg1 (by simp; omega)
      go_wp2_with (first
        | (at_mapUpdate; refine wpList_mapUpdate_own _ rfl _ _ _ 27 rfl 9 20 law9 Try.underlying27 _ bo _ _ rfl hout1 (by omega) _ _ _ rfl rfl hkey _ _ hv ?_; intro w2 hout2 hg2; go_frame)
        | go_in)
      have hrg2 := hrg1.kept hg2 (fun e => by have := Option.some.inj e; omega) (fun e => by have := Option.some.inj e; omega)
      go_roundw
      case rel =>
        exact ⟨_, cnt1, _, hrg2, by omega, hout2.mono (by omega), agree_step hA hout.isMap (law9.key hkey) hat, (ht.grown hg1 (Or.inl (Nat.le_refl _))).grown hg2 (Or.inr rfl)⟩
      case measure => rw [hrg2.left_eq, hrg.left_eq]; exact hlt

theorem copy27_nil (bo : Nat) (w : World) :
    Calls Try.prog 27 #[.map (some bo), .map none] w fun e w' => e = .returned (.tuple #[]) ∧ Turned (fun _ => False) w w' := by
  have hrg := run_range_nilMap (P := Try.prog) w 26 9 20 Try.underlying26
  have hnx : ∀ ty, (Instr.next (.pointer (some ⟨w.heap.size, 0, none⟩)) false ty).run Try.prog (w.alloc (.mapIter none 0 #[] 0)) = _ := fun ty => run_next_nilMap _ ty 0 0 #[]
  go_enter Try.func27, Try.ntmps27
  go_wp2
  refine wp_loop_rounds 1 ?_
  rw [rounds_succ]
  go_wp2
  go_end0
  exact ⟨rfl, (Turned.refl _ _).alloc _⟩
end Go.Proofs.Qxb6615042a
