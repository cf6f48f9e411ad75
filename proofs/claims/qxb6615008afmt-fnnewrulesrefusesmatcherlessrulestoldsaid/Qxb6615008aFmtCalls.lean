/- The road over errors.New and fmt.Errorf: closed facts at this dump's numbers (after the kit's worked GuardFmt), and the contracts. -/
import Derived.Test.Qxb6615008aFmtGuards
import Derived.Stop.CallBack
import Derived.Stop.IfaceNil
import GoSem.ClaimData
import Derived.WalkKit
import Derived.WalkSpells
import Derived.WalkLawsBesides
namespace Go.Proofs.Qxb6615008aFmt
open Go.RowKit Go.Extern.Stop Go.Stop Go.Extern

theorem call15 (args : Array Value) (w : World) : (callFunc 15 args).run Tryf.prog w = ((FmtStop.errorf #[9, 47] #[31] args).run Tryf.prog w).andThen fun v w' => .ok (.value v) w' :=
  run_callFunc_extern Tryf.func15 (by kernel_rfl) (by kernel_rfl) (by kernel_rfl) (by kernel_rfl) args w
theorem guardF (name : String) (w : World) : (FmtStop.guard name).run Tryf.prog w = .ok () w := by kernel_rfl
theorem fmt2 : FmtStop.printed? ⟨#[114, 117, 108, 101, 32, 37, 100, 58, 32, 37, 119]⟩ 2 = some [(0, 100, false), (1, 119, false)] := by kernel_rfl
theorem fmt2r (w : World) : (FmtDoors.printed ⟨#[114, 117, 108, 101, 32, 37, 100, 58, 32, 37, 119]⟩ 2).run Tryf.prog w = .ok [(0, 100, false), (1, 119, false)] w := by kernel_rfl
def shape3 : List UInt8 := [5, 3, 0, 0, 0, 0, 0, 0, 0, 105, 110, 116]
theorem op3_100w (name : String) (x : Int) (w : World) : (FmtStop.operand name true 100 false (.iface 3 (.int .i64 x))).run Tryf.prog w = .ok (shape3, Go.Extern.Stop.digits 8 (x % 2 ^ 64).toNat) w := by kernel_rfl
theorem ptr44 (w : World) : (FmtStop.ptrTo "errors.errorString").run Tryf.prog w = .ok 44 w := by kernel_rfl
theorem elem44 (w : World) : (elemOf 44).run Tryf.prog w = .ok 46 w := by kernel_rfl
theorem isError44 (w : World) : (FmtDoors.textMethod 44 "Error").run Tryf.prog w = .ok true w := by kernel_rfl
/-- An error of errors.New's make as an operand: it reads as its type's name and its text, out of memory. -/
theorem opPlain44_119w (name : String) (a : Addr) (s : ByteArray) (w : World) (hc : w.cell? a = some (.string s)) :
    ∃ sh, (FmtStop.operand name true 119 false (.iface 44 (.pointer (some a)))).run Tryf.prog w = .ok (sh, s.data.toList) w := by
  have h1 : ∃ nm, (typeStr 44).run Tryf.prog w = .ok nm w := ⟨(match (typeStr 44).run Tryf.prog w with | .ok nm _ => nm | _ => ""), by kernel_rfl⟩
  obtain ⟨nm, h1⟩ := h1
  have d2 : Tryf.t44.desc = .pointer 46 := rfl
  have d3 : Tryf.t46.desc = .named "errors.errorString" 45 := rfl
  refine ⟨14 :: FmtStop.pack nm.toUTF8.data.toList, ?_⟩
  simp [FmtStop.operand, h1, d2, d3, run_load, hc]
theorem ptr48 (w : World) : (FmtStop.ptrTo "fmt.wrapError").run Tryf.prog w = .ok 48 w := by kernel_rfl
theorem elem48 (w : World) : (elemOf 48).run Tryf.prog w = .ok 69 w := by kernel_rfl
theorem isError48 (w : World) : (FmtDoors.textMethod 48 "Error").run Tryf.prog w = .ok true w := by kernel_rfl
attribute [local go_sem] call15 guardF fmt2 fmt2r op3_100w ptr44 elem44 isError44 ptr48 elem48 isError48

theorem new12_any (s : ByteArray) (w : World) : Calls Tryf.prog 12 #[.string s] w fun e w' => e = .returned (.iface 44 (.pointer (some ⟨w.heap.size, 0, none⟩))) ∧ w' = w.alloc (.cells #[.string s] 46) := by
  go_enter Tryf.func12, Tryf.ntmps12
  go_wp2
  go_ret
  exact ⟨rfl, rfl⟩

theorem check9_any (s : ByteArray) (w : World) : Calls Tryf.prog 9 #[.agg #[.string s, .nilIface]] w fun e w' => (∃ g t, e = .returned (.iface 44 (.pointer (some ⟨g, 0, none⟩))) ∧ w'.cell? ⟨g, 0, none⟩ = some (.string t)) ∧ Below w.heap.size w w' := by
  by_cases h : s.toList.isEmpty = true
  · go_enter Tryf.func9, Tryf.ntmps9
    go_wp2_with (go_at_call 12; refine (new12_any _ _).mono ?_; rintro e w' ⟨rfl, rfl⟩)
    go_ret
    exact ⟨⟨_, _, rfl, by simp; rfl⟩, ((Below.refl _ _).alloc (Nat.le_refl _) _).alloc (by simp) _⟩
  · have h' : s.toList.isEmpty = false := by simpa using h
    go_enter Tryf.func9, Tryf.ntmps9
    go_wp2_with (first | (go_at_call 12; refine (new12_any _ _).mono ?_; rintro e w' ⟨rfl, rfl⟩) | (go_at_call 13; go_in))
    go_ret
    exact ⟨⟨_, _, rfl, by simp; rfl⟩, ((Below.refl _ _).alloc (Nat.le_refl _) _).alloc (by simp) _⟩

theorem rule10_any (F : Interp) (n : Int) (a : Addr) (s : ByteArray) (w : World) (hF : F.answers w.tape) (n0 : 0 ≤ n) (n1 : n ≤ 1048576) (hc : w.cell? a = some (.string s)) :
    Calls Tryf.prog 10 #[.int .i64 n, .iface 44 (.pointer (some a))] w fun e w' => (∃ g, e = .returned (.iface 48 (.pointer (some g)))) ∧ Below w.heap.size w w' := by
  have hF' := answers_open hF
  have hb : a.block < w.heap.size := World.block_lt_of_cell? _ _ hc
  obtain ⟨sh, hop⟩ := opPlain44_119w "fmt.errorf" a s (w.alloc (.cells #[.iface 3 (.int .i64 (n + 1)), .iface 44 (.pointer (some a))] 20)) (by rw [World.cell?_alloc_old w _ a (Nat.ne_of_lt hb)]; exact hc)
  go_enter Tryf.func10, Tryf.ntmps10
  go_wp2
  go_ret
  exact ⟨⟨_, rfl⟩, (((Below.refl _ _).alloc (Nat.le_refl _) _).alloc (by simp) _).drew⟩

set_option maxHeartbeats 800000 in
theorem new6_pos (F : Interp) (g n c : Nat) (s : ByteArray) (w : World) (hF : F.answers w.tape) (hn : 0 < n) (hn2 : n ≤ 1048576)
    (c0 : w.cell? ⟨g, 0, none⟩ = some (.string s)) (c1 : w.cell? ⟨g, 1, none⟩ = some .nilIface) :
    Calls Tryf.prog 6 #[.slice (some ⟨g, 0, none⟩) n c] w fun e w' => (∃ a, e = .returned (.tuple #[.pointer none, .iface 48 (.pointer (some a))])) ∧ Below w.heap.size w w' := by
  have hg : g < w.heap.size := by have := World.block_lt_of_cell? _ _ c0; simpa using this
  have hn' : (0 : Int) < (n : Int) := by omega
  go_enter Tryf.func6, Tryf.ntmps6
  go_wp2
  go_loopw [9] (fun i wr => i = .int .i64 0 ∧ wr = w) (fun _ _ => 0)
  case atStart => exact ⟨rfl, rfl⟩
  case round =>
    obtain ⟨rfl, rfl⟩ := hrel
    go_wp2_with fail
    refine (check9_any _ _).mono ?_
    rintro e w1 ⟨⟨g1, t, rfl, hc1⟩, b1⟩
    have hF1 : F.answers w1.tape := by rw [b1.tape]; exact hF
    have bz : Below wr.heap.size wr w1 := ((Below.refl _ _).alloc (Nat.le_refl _) _).trans (b1.mono (by simp))
    clear b1 c0 c1 hF
    go_wp2_with fail
    refine (rule10_any F 0 _ t _ hF1 (by omega) (by omega) hc1).mono ?_
    rintro e w2 ⟨⟨g2, rfl⟩, b2⟩
    go_wp2
    go_ret2
    exact ⟨⟨_, rfl⟩, bz.trans (b2.mono bz.size)⟩

theorem clone11_some (x : Addr) (c : Nat) (w : World) : Calls Tryf.prog 11 #[.slice (some x) 0 c] w fun e w' => (∃ a c', e = .returned (.slice a 0 c')) ∧ Below w.heap.size w w' := by
  have q24 : ∀ (w : World) (a : Option Addr) (n c : Nat), (binOp .eql 24 (.slice a n c) (.slice none 0 0)).run Tryf.prog w = .ok (.bool a.isNone) w := fun w a n c => Lib.run_eql_slice_nil w _ _ a n c 0 0 Tryf.underlying24
  go_enter Tryf.func11, Tryf.ntmps11
  go_wp2
  go_ret
  exact ⟨⟨_, _, rfl⟩, (Below.refl _ _).alloc (Nat.le_refl _) _⟩

theorem clone11_none (w : World) : Calls Tryf.prog 11 #[.slice none 0 0] w fun e w' => (∃ a c', e = .returned (.slice a 0 c')) ∧ Below w.heap.size w w' := by
  have q24 : ∀ (w : World) (a : Option Addr) (n c : Nat), (binOp .eql 24 (.slice a n c) (.slice none 0 0)).run Tryf.prog w = .ok (.bool a.isNone) w := fun w a n c => Lib.run_eql_slice_nil w _ _ a n c 0 0 Tryf.underlying24
  go_enter Tryf.func11, Tryf.ntmps11
  go_wp2
  go_ret
  exact ⟨⟨_, _, rfl⟩, Below.refl _ _⟩

theorem new6_zero (a : Option Addr) (c : Nat) (w : World) (hP : Calls Tryf.prog 11 #[.slice a 0 c] w fun e w' => (∃ a c', e = .returned (.slice a 0 c')) ∧ Below w.heap.size w w') :
    Calls Tryf.prog 6 #[.slice a 0 c] w fun e w' => (∃ g, e = .returned (.tuple #[.pointer (some ⟨g, 0, none⟩), .nilIface]) ∧ ∃ a' c', w'.cell? ⟨g, 0, none⟩ = some (.slice a' 0 c')) ∧ Below w.heap.size w w' := by
  go_enter Tryf.func6, Tryf.ntmps6
  go_wp2
  go_loopw [9] (fun i wr => i = .int .i64 0 ∧ wr = w) (fun _ _ => 0)
  case atStart => exact ⟨rfl, rfl⟩
  case round =>
    obtain ⟨rfl, rfl⟩ := hrel
    go_wp2_with fail
    refine hP.mono ?_
    rintro e w1 ⟨⟨a1, c1, rfl⟩, b1⟩
    go_wp2
    go_ret2
    exact ⟨⟨_, rfl, a1, c1, by simp⟩, b1.alloc b1.size _⟩

theorem len7_any (g : Nat) (a : Option Addr) (c : Nat) (w : World) (hc : w.cell? ⟨g, 0, none⟩ = some (.slice a 0 c)) :
    Calls Tryf.prog 7 #[.pointer (some ⟨g, 0, none⟩)] w fun e w' => e = .returned (.int .i64 0) ∧ w = w' := by
  go_enter Tryf.func7, Tryf.ntmps7
  go_wp2
  go_ret
  exact ⟨rfl, rfl⟩
end Go.Proofs.Qxb6615008aFmt
