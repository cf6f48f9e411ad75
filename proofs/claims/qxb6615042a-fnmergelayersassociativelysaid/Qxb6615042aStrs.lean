/- Slices of strings: the guards, the order test, the search. -/
import Derived.Test.Qxb6615042aRows
import Derived.Test.Qxb6615042aBase
import Derived.Test.Qxb6615042aOrd
import Derived.WalkKit
import Derived.WalkSpells
import Derived.WalkLawsBesides
import Derived.Deep.QuietTactic
import Derived.BigQuiet
namespace Go.Proofs.Qxb6615042a
open Go.RowKit

/-- What is known of a slice of strings: where there is an element, it leads to a row of strings. -/
def Strs (w : World) (a : Option Addr) (len : Nat) (p : Nat → ByteArray) : Prop :=
  0 < len → ∃ b o, a = some ⟨b, o, none⟩ ∧ b < w.heap.size ∧ ∀ i, i < len → w.cell? ⟨b, o + i, none⟩ = some (.string (p i))

/-- It returned some bool, and where that is true Q holds. -/
def BoolT (Q : Prop) (e : Ending) : Prop := ∃ b : Bool, e = .returned (.bool b) ∧ (b = true → Q)
theorem BoolT.mk {Q : Prop} (b : Bool) (h : b = true → Q) : BoolT Q (.returned (.bool b)) := ⟨b, rfl, h⟩
theorem BoolT.no {Q : Prop} : BoolT Q (.returned (.bool false)) := ⟨false, rfl, fun h => by cases h⟩
theorem BoolT.yes {Q : Prop} (h : Q) : BoolT Q (.returned (.bool true)) := ⟨true, rfl, fun _ => h⟩

/-- It returned some int of a bounded size. -/
def IntB (e : Ending) : Prop := ∃ m : Int, e = .returned (.int .i64 m) ∧ 0 ≤ m ∧ m ≤ 8388608
theorem IntB.mk {m : Int} (h0 : 0 ≤ m) (h1 : m ≤ 8388608) : IntB (.returned (.int .i64 m)) := ⟨m, rfl, h0, h1⟩

theorem sb8_any (a : Option Addr) (n c : Nat) (t : Int) (p : Nat → ByteArray) (w : World) (hn : n ≤ 1048576) (t0 : 0 ≤ t) (t1 : t ≤ 4194304) (hp : ∀ i, i < n → (p i).size ≤ 1048576) (hs : Strs w a n p) :
    Calls Try.prog 8 #[.slice a n c, .int .i64 t] w fun e w' => IntB e ∧ w = w' := by
  go_enter Try.func8, Try.ntmps8
  go_wp2
  go_loop [1, 5] (fun z i => ∃ (k : Nat) (m : Int), k ≤ n ∧ 0 ≤ m ∧ m ≤ 4194304 ∧ z = .int .i64 m ∧ i = .int .i64 k) (fun _ i => n - (intOf i).toNat)
  case atStart => exact ⟨0, t, Nat.zero_le _, t0, t1, rfl, rfl⟩
  case round =>
    obtain ⟨k, m, hk, m0, m1, rfl, rfl⟩ := hrel
    by_cases hlt : k < n
    · obtain ⟨b, o, rfl, hb, hc⟩ := hs (by omega)
      have hck := hc k hlt
      have hpk := hp k hlt
      clear hc hs hp
      by_cases h3 : (1048576 : Int) < m + (16 + ((p k).size : Int))
      · go_wp2
        go_ret
        exact ⟨IntB.mk (by omega) (by omega), rfl⟩
      · go_wp2
        go_round
        case rel => exact ⟨k + 1, m + (16 + (p k).size), by omega, by omega, by omega, rfl, by go_num⟩
        case measure => simp [intOf]; omega
    · go_wp2
      go_ret
      exact ⟨IntB.mk (by omega) (by omega), rfl⟩

/-- The keys as lists of bytes. -/
def kl (p : Nat → ByteArray) (i : Nat) : List UInt8 := (p i).toList

theorem drewN_add (w : World) (m n : Nat) : (w.drewN m).drewN n = w.drewN (m + n) := by simp [World.drewN, Nat.add_assoc]

theorem ord9_any (a : Option Addr) (n c : Nat) (p : Nat → ByteArray) (w : World) (hn : n ≤ 1048576) (hs : Strs w a n p) :
    Calls Try.prog 9 #[.slice a n c] w fun e w' => BoolT (Rises (kl p) n) e ∧ ∃ m, w' = w.drewN m := by
  go_enter Try.func9, Try.ntmps9
  go_wp2
  go_loopw [3] (fun i wr => ∃ (k : Nat), 1 ≤ k ∧ (k = 1 ∨ k ≤ n) ∧ i = .int .i64 k ∧ (∀ j, j + 1 < k → Op.bytesLess (kl p j) (kl p (j + 1)) = true) ∧ ∃ m, wr = w.drewN m) (fun i _ => n - (intOf i).toNat)
  case atStart => exact ⟨1, Nat.le_refl _, Or.inl rfl, rfl, fun j h => by omega, 0, rfl⟩
  case round =>
    obtain ⟨k, hk1, hk, rfl, hR, m, rfl⟩ := hrel
    by_cases hlt : k < n
    · obtain ⟨b, o, rfl, hb, hc⟩ := hs (by omega)
      obtain ⟨q, rfl⟩ : ∃ q, k = q + 1 := ⟨k - 1, by omega⟩
      have h0 : w.cell? ⟨b, o + q, none⟩ = some (.string (p q)) := hc q (by omega)
      have h1 : w.cell? ⟨b, o + (q + 1), none⟩ = some (.string (p (q + 1))) := hc (q + 1) hlt
      have c0 : (w.drewN m).cell? ⟨b, o + q, none⟩ = some (.string (p q)) := h0
      have c1 : (w.drewN m).cell? ⟨b, o + (q + 1), none⟩ = some (.string (p (q + 1))) := h1
      have i0 : (q : Int) < (n : Int) := by omega
      have i1 : ((q : Int) + 1) < (n : Int) := by omega
      have e1 : ((q + 1 : Nat) : Int) = (q : Int) + 1 := by omega
      clear hc hs
      rw [e1]
      cases hL : Op.bytesLess (p q).toList (p (q + 1)).toList
      · go_wp2
        go_quiet (fail)
        go_wp2
        go_ret
        exact ⟨BoolT.no, _, drewN_add _ _ _⟩
      · go_wp2
        go_quiet (fail)
        go_wp2
        go_roundw
        case rel =>
          refine ⟨q + 2, by omega, Or.inr (by omega), by go_num, fun j hj => ?_, _, rfl⟩
          by_cases e : j = q
          · subst e; exact hL
          · exact hR j (by omega)
        case measure => simp [intOf]; omega
    · go_wp2
      go_ret
      exact ⟨BoolT.yes (fun i hi => hR i (by omega)), m, rfl⟩

/-- What the search says: where x is, or -1. -/
def Found (p : Nat → ByteArray) (n : Nat) (x : List UInt8) (e : Ending) : Prop :=
  (e = .returned (.int .i64 (-1)) ∧ ∀ i, i < n → kl p i ≠ x) ∨ ∃ j : Nat, j < n ∧ e = .returned (.int .i64 j) ∧ kl p j = x

theorem find24_any (a : Option Addr) (n c : Nat) (x : ByteArray) (p : Nat → ByteArray) (w : World) (hn : n ≤ 1048576) (hs : Strs w a n p) (hR : Rises (kl p) n) :
    Calls Try.prog 24 #[.slice a n c, .string x] w fun e w' => Found p n x.toList e ∧ w = w' := by
  go_enter Try.func24, Try.ntmps24
  go_wp2
  go_loop [5, 6] (fun lo hi => ∃ l h : Nat, lo = .int .i64 l ∧ hi = .int .i64 h ∧ Srch (kl p) n x.toList l h) (fun lo hi => (intOf hi).toNat - (intOf lo).toNat)
  case atStart => exact ⟨0, n, rfl, rfl, srch_start _ _ _⟩
  case round =>
    obtain ⟨l, h, rfl, rfl, hS⟩ := hrel
    have hlh := hS.1
    have hhn := hS.2.1
    by_cases hlt : l < h
    · obtain ⟨b, o, rfl, hb, hc⟩ := hs (by omega)
      have hck := hc (l + (h - l) / 2) (by omega)
      clear hc hs
      cases hL : Op.bytesLess (p (l + (h - l) / 2)).toList x.toList
      · go_wp2
        go_round
        case rel => exact ⟨l, l + (h - l) / 2, rfl, by go_num, srch_left hR hS (by omega) (by omega) hL⟩
        case measure => simp only [intOf]; omega
      · go_wp2
        go_round
        case rel => exact ⟨l + (h - l) / 2 + 1, h, by go_num, rfl, srch_right hR hS (by omega) (by omega) hL⟩
        case measure => simp only [intOf]; omega
    · obtain rfl : l = h := by omega
      by_cases hln : l < n
      · obtain ⟨b, o, rfl, hb, hc⟩ := hs (by omega)
        have hck := hc l hln
        clear hc hs
        cases hE : ((p l).toList == x.toList)
        · go_wp2
          go_ret
          exact ⟨Or.inl ⟨rfl, srch_miss hR hS (fun _ e => by unfold kl at e; rw [e] at hE; simp at hE)⟩, rfl⟩
        · go_wp2
          go_ret
          exact ⟨Or.inr ⟨l, hln, rfl, by simpa [kl] using hE⟩, rfl⟩
      · go_wp2
        go_ret
        exact ⟨Or.inl ⟨rfl, srch_miss hR hS (fun h => absurd h hln)⟩, rfl⟩
end Go.Proofs.Qxb6615042a
