/- Small laws on worlds, of no program: 'Turned S w w'': what was there and is not in S is as it was. -/
import Derived.WalkKit
import Derived.Deep.OwnRows
import Derived.Below
import Derived.Deep.Draws
namespace Go.Proofs.Qxb6615042a
open Go.RowKit

/-- Blocks that were there and are not in S are as they were; the streams are as they were; no block has gone. -/
structure Turned (S : Nat → Prop) (w w' : World) : Prop where
  os : w'.os = w.os
  tape : w'.tape = w.tape
  output : w'.output = w.output
  size : w.heap.size ≤ w'.heap.size
  block : ∀ k, k < w.heap.size → ¬ S k → w'.heap[k]? = w.heap[k]?

theorem Turned.refl (S : Nat → Prop) (w : World) : Turned S w w := ⟨rfl, rfl, rfl, Nat.le_refl _, fun _ _ _ => rfl⟩
theorem Turned.trans {S : Nat → Prop} {a b c : World} (h : Turned S a b) (k : Turned S b c) : Turned S a c :=
  ⟨k.os.trans h.os, k.tape.trans h.tape, k.output.trans h.output, Nat.le_trans h.size k.size, fun i hi hS => (k.block i (Nat.lt_of_lt_of_le hi h.size) hS).trans (h.block i hi hS)⟩
theorem Turned.mono {S T : Nat → Prop} {w w' : World} (h : Turned S w w') (hS : ∀ k, k < w.heap.size → S k → T k) : Turned T w w' :=
  ⟨h.os, h.tape, h.output, h.size, fun k hk hT => h.block k hk (fun hs => hT (hS k hk hs))⟩
theorem Turned.drew {S : Nat → Prop} {a w : World} (h : Turned S a w) : Turned S a w.drew := ⟨h.os, h.tape, h.output, h.size, h.block⟩
theorem Turned.alloc {S : Nat → Prop} {a w : World} (h : Turned S a w) (o : Obj) : Turned S a (w.alloc o) :=
  h.trans ⟨rfl, rfl, rfl, by simp, fun k hk _ => Below.heap_alloc _ _ _ hk⟩
theorem Turned.setCell {S : Nat → Prop} {a w : World} (h : Turned S a w) {p : Addr} (hp : S p.block) (u : Value) : Turned S a (w.setCell p u) :=
  h.trans ⟨rfl, rfl, rfl, by simp [World.setCell], fun k _ hS => Below.heap_setCell _ _ _ _ (fun e => hS (e ▸ hp))⟩
theorem Turned.below {S : Nat → Prop} {w w' : World} {B : Nat} (h : Turned S w w') (hB : B ≤ w.heap.size) (hS : ∀ k, S k → B ≤ k) : Below B w w' :=
  ⟨h.os, h.tape, h.output, h.size, fun k hk => h.block k (by omega) (fun hs => by have := hS k hs; omega)⟩
theorem Turned.of_below {w w' : World} {B : Nat} (h : Below B w w') : Turned (fun k => B ≤ k) w w' :=
  ⟨h.os, h.tape, h.output, h.size, fun k _ hS => h.block k (by omega)⟩
theorem Turned.row {S : Nat → Prop} {w w' : World} (h : Turned S w w') {b : Nat} {t : TypeId} {n : Nat} {f : Nat → Value} (hr : w.rowIs b t n f) (hS : ¬ S b) : w'.rowIs b t n f :=
  hr.of_block (h.block b hr.lt hS)
theorem Turned.cell {S : Nat → Prop} {w w' : World} (h : Turned S w w') {b o : Nat} (hb : b < w.heap.size) (hS : ¬ S b) : w'.cell? ⟨b, o, none⟩ = w.cell? ⟨b, o, none⟩ :=
  World.cell?_of_block (w := w) (h.block b hb hS)

theorem Turned.of_grown {w w' : World} {b : Nat} (h : w.grownBy w' (some b)) : Turned (fun k => k = b) w w' :=
  ⟨h.os, h.tape, h.output, h.size, fun k hk hS => h.block k hk (fun e => hS (by injection e))⟩
theorem Below.drewN {B : Nat} {a w : World} (h : Below B a w) (n : Nat) : Below B a (w.drewN n) := ⟨h.os, h.tape, h.output, h.size, h.block⟩
theorem Turned.drewN {S : Nat → Prop} {a w : World} (h : Turned S a w) (n : Nat) : Turned S a (w.drewN n) := ⟨h.os, h.tape, h.output, h.size, h.block⟩

end Go.Proofs.Qxb6615042a
