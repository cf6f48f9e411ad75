/- What the two laws on contexts share. -/
import Derived.Test.Qxb6615042aIs
import Derived.Test.Qxb6615042aCopy
namespace Go.Proofs.Qxb6615042a
open Go.RowKit Go.Maps

theorem info9 : (Try.prog.info? 9).map (fun i => (i.zero, i.size, i.bytes)) = some (some (.string ⟨#[]⟩), 1, 16) := by kernel_rfl
theorem mk22 (n : Nat) (hn : n ≤ 131072) (w : World) : (Instr.makeSlice 22 (.int .i64 (n : Int)) (.int .i64 (n : Int))).run Try.prog w = .ok (.slice (some ⟨w.heap.size, 0, none⟩) n n) (w.alloc (.cells (madeCells #[.string ⟨#[]⟩] n) 9)) :=
  run_make_row' (P := Try.prog) 22 9 (.string ⟨#[]⟩) 16 Try.underlying22 info9 rfl .i64 .i64 n (by omega) (by omega) w

theorem strs_of_row {w : World} {g n : Nat} {f : Nat → Value} {p : Nat → ByteArray} (hr : w.rowIs g 9 n f) (hf : ∀ i, i < n → f i = .string (p i)) : Strs w (some ⟨g, 0, none⟩) n p :=
  fun _ => ⟨g, 0, rfl, hr.lt, fun i hi => by rw [Nat.zero_add, hr.cell hi, hf i hi]⟩
theorem Strs.below {w w' : World} {a : Option Addr} {n : Nat} {p : Nat → ByteArray} (hs : Strs w a n p) (hb : Below w.heap.size w w') : Strs w' a n p := by
  intro hn
  obtain ⟨b, o, e, hlt, hc⟩ := hs hn
  exact ⟨b, o, e, Nat.lt_of_lt_of_le hlt hb.size, fun i hi => (hb.cell (p := ⟨b, o + i, none⟩) hlt).trans (hc i hi)⟩
theorem Strs.turned {w w' : World} {a : Option Addr} {n : Nat} {p : Nat → ByteArray} {S : Nat → Prop} (hs : Strs w a n p) (ht : Turned S w w') (hS : ∀ b o, a = some ⟨b, o, none⟩ → ¬ S b) : Strs w' a n p := by
  intro hn
  obtain ⟨b, o, e, hlt, hc⟩ := hs hn
  exact ⟨b, o, e, Nat.lt_of_lt_of_le hlt ht.size, fun i hi => (ht.cell hlt (hS b o e)).trans (hc i hi)⟩

theorem ofstrs_any (tk : ByteArray) (a a2 : Option Addr) (n c c2 : Nat) (p q : Nat → ByteArray) (w : World) (ha : a = none → n = 0 ∧ c = 0) (hn : n ≤ 131072) (hp : ∀ i, i < n → (p i).size ≤ 1048576) (hs : Strs w a n p) (hs2 : Strs w a2 n q) :
    Calls Try.prog 10 #[.string tk, .slice a n c, .slice a2 n c2] w fun e w' => (∃ b m, e = .returned (.map (some b)) ∧ CtxIs w' b m (withKey tk (Mk (kd p) (kd q) n)) (withSz tk (Mk (kd p) (kd q) n) (Zk (kd p) (kd q) n)) ∧ w.heap.size ≤ b) ∧ Below w.heap.size w w' := by
  cases a with
  | none =>
    obtain ⟨rfl, rfl⟩ := ha rfl
    exact ofstrs_none tk c2 a2 w
  | some x => exact ofstrs_some tk x n c c2 a2 p q w hn hp hs hs2

end Go.Proofs.Qxb6615042a
