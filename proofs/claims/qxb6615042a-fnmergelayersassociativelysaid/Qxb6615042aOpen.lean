/- A slice of strings that came in, opened once into what the walks ask. -/
import Derived.Test.Qxb6615042aStrs
import Derived.ProofKit
import Derived.OpenShut
import Derived.ShutString
import Derived.ChangeOld
import Derived.SliceStrings
namespace Go.Proofs.Qxb6615042a
open Go.ChangeShapes Go.WideShapes Go.ChangeAt Go.RowKit

theorem own : ownKnob Try.prog.godebug = none := by kernel_rfl
theorem laidOut : laidOutB Try.prog = true := by kernel_rfl
theorem cells9 : Try.prog.cellsOf 9 = 1 := by kernel_rfl

/-- WHAT THE WALK IS TOLD OF A SLICE OF STRINGS THAT CAME IN. -/
def IsStrs (w : World) (a : Option Addr) (len cap : Nat) (p : Nat → ByteArray) : Prop :=
  len ≤ maxLen ∧ (∀ i, (p i).size ≤ maxLen) ∧ Strs w a len p ∧ (a = none → len = 0 ∧ cap = 0)

theorem open_strs_any {H : Type} {enc : TypeId × Value → H} {W : World} {base : Nat} {held : Bool} {a : Option Addr} {len cap : Nat} {d : DataW H} {ps : List MemPlace}
    (h : DataW.Trod enc Try.prog W base (fun _ => true) held 22 (.slice a len cap) d ps) : ∃ p, IsStrs W a len cap p := by
  obtain ⟨fuel, hf⟩ := h
  rcases open_strings Try.underlying22 Try.underlying9 cells9 hf with ⟨hcs, _⟩ | ⟨x, l, c, ss, hcs, _, hl, hm, hz, _, hcell, hws⟩
  · simp [Value.cells] at hcs
    obtain ⟨rfl, rfl, rfl⟩ := hcs
    exact ⟨fun _ => ByteArray.empty, Nat.zero_le _, fun _ => Nat.zero_le _, fun h => absurd h (Nat.lt_irrefl 0), fun _ => ⟨rfl, rfl⟩⟩
  · simp [Value.cells] at hcs
    obtain ⟨rfl, rfl, rfl⟩ := hcs
    simp only [if_true] at hz
    refine ⟨fun i => ss.getD i ByteArray.empty, by omega, fun i => ?_, fun hp => ?_, fun h => by cases h⟩
    · show (ss.getD i ByteArray.empty).size ≤ maxLen
      by_cases hi : i < ss.length
      · have e : ss.getD i ByteArray.empty = ss[i] := by simp [List.getD, hi]
        rw [e]; exact hws _ (List.getElem_mem hi)
      · have e : ss.getD i ByteArray.empty = ByteArray.empty := by simp [List.getD, List.getElem?_eq_none (Nat.le_of_not_lt hi)]
        rw [e]; exact Nat.zero_le _
    · obtain ⟨b, off, spot⟩ := x
      have h0c := hcell 0 (by omega)
      have hspot : spot = none := by simpa [Addr.add] using World.cell?_spot h0c
      subst hspot
      have hb := World.block_lt_of_cell? _ _ h0c
      exact ⟨b, off, rfl, by simpa [Addr.add] using hb, fun i hi => by rw [← add_plain]; exact hcell i (by omega)⟩
end Go.Proofs.Qxb6615042a
