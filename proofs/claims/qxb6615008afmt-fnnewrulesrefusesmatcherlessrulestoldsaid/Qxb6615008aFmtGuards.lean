/- FnNewRulesRefusesMatcherlessRules: the two guards over the phases. -/
import Derived.Test.Qxb6615008aFmtRows
import Derived.Test.Qxb6615008aFmtBase
import Derived.WalkKit
import Derived.WalkSpells
import Derived.WalkLawsBesides
namespace Go.Proofs.Qxb6615008aFmt
open Go.RowKit

/-- What is known of the phases: where there is one, the slice leads to a row of strings. -/
def Strs (w : World) (a : Option Addr) (len : Nat) (p : Nat → ByteArray) : Prop :=
  0 < len → ∃ b o, a = some ⟨b, o, none⟩ ∧ b < w.heap.size ∧ ∀ i, i < len → w.cell? ⟨b, o + i, none⟩ = some (.string (p i))

/-- It returned some bool, and where that is false Q holds. -/
def Bool2 (Q : Prop) (e : Ending) : Prop := ∃ b : Bool, e = .returned (.bool b) ∧ (b = false → Q)
theorem Bool2.mk {Q : Prop} (b : Bool) (h : b = false → Q) : Bool2 Q (.returned (.bool b)) := ⟨b, rfl, h⟩

theorem bytes4_any (a : Option Addr) (len cap : Nat) (p : Nat → ByteArray) (w : World) (hm : len ≤ maxLen) (hp : ∀ i, (p i).size ≤ maxLen) (hs : Strs w a len p) :
    Calls Tryf.prog 4 #[.slice a len cap] w fun e w' => Bool2 True e ∧ w = w' := by
  unfold maxLen at hm hp
  by_cases h1 : 1048576 < len
  · go_enter Tryf.func4, Tryf.ntmps4
    go_wp2
    go_ret
    exact ⟨Bool2.mk _ (fun _ => trivial), rfl⟩
  · have k1 : ¬ (1048576 : Int) < (len : Int) := by omega
    go_enter Tryf.func4, Tryf.ntmps4
    go_wp2
    go_loop [3, 4] (fun z i => ∃ (k : Nat) (n : Int), k ≤ len ∧ 0 ≤ n ∧ n ≤ 1048576 ∧ z = .int .i64 n ∧ i = .int .i64 k) (fun _ i => len - (intOf i).toNat)
    case atStart => exact ⟨0, len, Nat.zero_le _, by omega, by omega, rfl, rfl⟩
    case round =>
      obtain ⟨k, n, hk, n0, n1, rfl, rfl⟩ := hrel
      by_cases hlt : k < len
      · obtain ⟨b, o, rfl, hb, hc⟩ := hs (by omega)
        have hck := hc k hlt
        have hpk := hp k
        clear hc hs
        by_cases h2 : 1048576 < (p k).size
        · have k2 : (1048576 : Int) < ((p k).size : Int) := by omega
          go_wp2
          go_ret
          exact ⟨Bool2.mk _ (fun _ => trivial), rfl⟩
        · have k2 : ¬ (1048576 : Int) < ((p k).size : Int) := by omega
          by_cases h3 : (1048576 : Int) < n + ((p k).size : Int)
          · go_wp2
            go_ret
            exact ⟨Bool2.mk _ (fun _ => trivial), rfl⟩
          · go_wp2
            go_round
            case rel => exact ⟨k + 1, n + (p k).size, by omega, by omega, by omega, rfl, by go_num⟩
            case measure => simp [intOf]; omega
      · go_wp2
        go_ret
        exact ⟨Bool2.mk _ (fun _ => trivial), rfl⟩

theorem add8_any (n : Int) (s : ByteArray) (w : World) (n0 : 0 ≤ n) (n1 : n ≤ 1048576) (hs : s.size ≤ maxLen) :
    Calls Tryf.prog 8 #[.int .i64 n, .string s] w fun e w' => (∃ m : Int, e = .returned (.int .i64 m) ∧ 0 ≤ m ∧ m ≤ 2097152) ∧ w = w' := by
  unfold maxLen at hs
  by_cases h : (1048576 : Int) < (s.size : Int)
  · go_enter Tryf.func8, Tryf.ntmps8
    go_wp2
    go_ret
    exact ⟨⟨_, rfl, by omega, by omega⟩, rfl⟩
  · go_enter Tryf.func8, Tryf.ntmps8
    go_wp2
    go_ret
    exact ⟨⟨_, rfl, by omega, by omega⟩, rfl⟩

theorem big5_any (a : Option Addr) (len cap : Nat) (p : Nat → ByteArray) (w : World) (hm : len ≤ maxLen) (hp : ∀ i, (p i).size ≤ maxLen) (hs : Strs w a len p) :
    Calls Tryf.prog 5 #[.slice a len cap] w fun e w' => Bool2 (len ≤ 65536) e ∧ w = w' := by
  have hp' := hp
  unfold maxLen at hm hp
  by_cases h1 : 65536 < len
  · go_enter Tryf.func5, Tryf.ntmps5
    go_wp2
    go_ret
    exact ⟨Bool2.mk true (fun h => by cases h), rfl⟩
  · have k1 : ¬ (65536 : Int) < (len : Int) := by omega
    have k2 : ¬ (1048576 : Int) < 16 * (len : Int) := by omega
    go_enter Tryf.func5, Tryf.ntmps5
    go_wp2
    go_loop [3, 4] (fun z i => ∃ (k : Nat) (n : Int), k ≤ len ∧ 0 ≤ n ∧ n ≤ 1048576 ∧ z = .int .i64 n ∧ i = .int .i64 k) (fun _ i => len - (intOf i).toNat)
    case atStart => exact ⟨0, 16 * len, Nat.zero_le _, by omega, by omega, rfl, rfl⟩
    case round =>
      obtain ⟨k, n, hk, n0, n1, rfl, rfl⟩ := hrel
      by_cases hlt : k < len
      · obtain ⟨b, o, rfl, hb, hc⟩ := hs (by omega)
        have hck := hc k hlt
        clear hc hs
        go_wp2_with fail
        refine (add8_any n (p k) w n0 n1 (hp' k)).mono ?_
        rintro e w' ⟨⟨m, rfl, m0, m1⟩, rfl⟩
        by_cases h3 : (1048576 : Int) < m
        · go_wp2
          go_ret
          exact ⟨Bool2.mk true (fun h => by cases h), rfl⟩
        · go_wp2
          go_round
          case rel => exact ⟨k + 1, m, by omega, by omega, by omega, rfl, by go_num⟩
          case measure => simp [intOf]; omega
      · go_wp2
        go_ret
        exact ⟨Bool2.mk false (fun _ => by omega), rfl⟩
end Go.Proofs.Qxb6615008aFmt
