/- Slices of EncodedFlag that came in: what is known of them; the guards, the order test, the search, the count. -/
import Derived.Test.Qxb6615042aStrs
import Derived.Test.Qxb6615042aMrg
import Derived.Deep.MidRow
namespace Go.Proofs.Qxb6615042a
open Go.RowKit

/-- One flag as it was handed: its key, its JSON's slice, its sum's bytes. -/
structure Src where
  key : ByteArray
  ja : Option Addr
  jl : Nat
  jc : Nat
  sum : List Value

def Src.k (s : Src) : List UInt8 := s.key.toList

/-- What is known of the bytes of a JSON. -/
def Bys (w : World) (a : Option Addr) (n : Nat) : Prop :=
  0 < n → ∃ b o, a = some ⟨b, o, none⟩ ∧ b < w.heap.size ∧ ∀ i, i < n → ∃ v, w.cell? ⟨b, o + i, none⟩ = some (.int .u8 v)

/-- What is known of a slice of EncodedFlag. -/
def Fls (w : World) (a : Option Addr) (len : Nat) (p : Nat → Src) : Prop :=
  0 < len → ∃ b o, a = some ⟨b, o, none⟩ ∧ b < w.heap.size ∧ ∀ i, i < len → w.cell? ⟨b, o + i * 34, none⟩ = some (.string (p i).key) ∧
    w.cell? ⟨b, o + i * 34 + 1, none⟩ = some (.slice (p i).ja (p i).jl (p i).jc) ∧ w.rangeAt b (o + i * 34 + 2) (p i).sum

def ks (p : Nat → Src) (i : Nat) : List UInt8 := (p i).key.toList

theorem fb15_any (a : Option Addr) (n c : Nat) (t : Int) (p : Nat → Src) (w : World) (hn : n ≤ 1048576) (t0 : 0 ≤ t) (t1 : t ≤ 4194304) (hp : ∀ i, i < n → (p i).key.size ≤ 1048576 ∧ (p i).jl ≤ 1048576) (hs : Fls w a n p) :
    Calls Try.prog 15 #[.slice a n c, .int .i64 t] w fun e w' => IntB e ∧ ∃ m, w' = w.drewN m := by
  go_enter Try.func15, Try.ntmps15
  go_wp2
  go_loopw [1, 5] (fun z i wr => ∃ (k : Nat) (m : Int), k ≤ n ∧ 0 ≤ m ∧ m ≤ 4194304 ∧ z = .int .i64 m ∧ i = .int .i64 k ∧ ∃ j, wr = w.drewN j) (fun _ i _ => n - (intOf i).toNat)
  case atStart => exact ⟨0, t, Nat.zero_le _, t0, t1, rfl, rfl, 0, rfl⟩
  case round =>
    obtain ⟨k, m, hk, m0, m1, rfl, rfl, j, rfl⟩ := hrel
    by_cases hlt : k < n
    · obtain ⟨b, o, rfl, hb, hc⟩ := hs (by omega)
      obtain ⟨c0, c1, _⟩ := hc k hlt
      have c0' : (w.drewN j).cell? ⟨b, o + k * 34, none⟩ = some (.string (p k).key) := c0
      have c1' : (w.drewN j).cell? ⟨b, o + k * 34 + 1, none⟩ = some (.slice (p k).ja (p k).jl (p k).jc) := c1
      obtain ⟨hp0, hp1⟩ := hp k hlt
      have i0 : (k : Int) < (n : Int) := by omega
      clear hc hs hp
      by_cases h3 : (1048576 : Int) < m + (64 + ((p k).key.size : Int) + ((p k).jl : Int))
      · go_wp2
        go_quiet (fail)
        go_wp2
        go_ret
        exact ⟨IntB.mk (by omega) (by omega), _, rfl⟩
      · go_wp2
        go_quiet (fail)
        go_wp2
        go_roundw
        case rel => exact ⟨k + 1, m + (64 + (p k).key.size + (p k).jl), by omega, by omega, by omega, rfl, by go_num, _, rfl⟩
        case measure => simp [intOf]; omega
    · go_wp2
      go_ret
      exact ⟨IntB.mk (by omega) (by omega), j, rfl⟩
theorem ord16_any (a : Option Addr) (n c : Nat) (p : Nat → Src) (w : World) (hn : n ≤ 1048576) (hs : Fls w a n p) :
    Calls Try.prog 16 #[.slice a n c] w fun e w' => BoolT (Rises (ks p) n) e ∧ ∃ m, w' = w.drewN m := by
  go_enter Try.func16, Try.ntmps16
  go_wp2
  go_loopw [3] (fun i wr => ∃ (k : Nat), 1 ≤ k ∧ (k = 1 ∨ k ≤ n) ∧ i = .int .i64 k ∧ (∀ j, j + 1 < k → Op.bytesLess (ks p j) (ks p (j + 1)) = true) ∧ ∃ m, wr = w.drewN m) (fun i _ => n - (intOf i).toNat)
  case atStart => exact ⟨1, Nat.le_refl _, Or.inl rfl, rfl, fun j h => by omega, 0, rfl⟩
  case round =>
    obtain ⟨k, hk1, hk, rfl, hR, m, rfl⟩ := hrel
    by_cases hlt : k < n
    · obtain ⟨b, o, rfl, hb, hc⟩ := hs (by omega)
      obtain ⟨q, rfl⟩ : ∃ q, k = q + 1 := ⟨k - 1, by omega⟩
      have f0 : w.cell? ⟨b, o + q * 34, none⟩ = some (.string (p q).key) := (hc q (by omega)).1
      have f1 : w.cell? ⟨b, o + (q + 1) * 34, none⟩ = some (.string (p (q + 1)).key) := (hc (q + 1) hlt).1
      have c0 : (w.drewN m).cell? ⟨b, o + q * 34, none⟩ = some (.string (p q).key) := (hc q (by omega)).1
      have c1 : (w.drewN m).cell? ⟨b, o + (q + 1) * 34, none⟩ = some (.string (p (q + 1)).key) := (hc (q + 1) hlt).1
      have i0 : (q : Int) < (n : Int) := by omega
      have i1 : ((q : Int) + 1) < (n : Int) := by omega
      have e1 : ((q + 1 : Nat) : Int) = (q : Int) + 1 := by omega
      clear hc hs
      rw [e1]
      cases hL : Op.bytesLess (p q).key.toList (p (q + 1)).key.toList
      · go_wp2
        go_quiet (fail)
        go_wp2
        go_ret
        exact ⟨BoolT.no, _, drewN_add _ _ _⟩
      · go_wp2
        go_quiet (fail)
        go_wp2
        go_roundw
        case rel =>
          refine ⟨q + 2, by omega, Or.inr (by omega), by go_num, fun j hj => ?_, _, rfl⟩
          by_cases e : j = q
          · subst e; exact hL
          · exact hR j (by omega)
        case measure => simp [intOf]; omega
    · go_wp2
      go_ret
      exact ⟨BoolT.yes (fun i hi => hR i (by omega)), m, rfl⟩

/-- What the search says: where x is, or -1. -/
def FoundF (p : Nat → Src) (n : Nat) (x : List UInt8) (e : Ending) : Prop :=
  (e = .returned (.int .i64 (-1)) ∧ ∀ i, i < n → ks p i ≠ x) ∨ ∃ j : Nat, j < n ∧ e = .returned (.int .i64 j) ∧ ks p j = x

theorem find21_any (a : Option Addr) (n c : Nat) (x : ByteArray) (p : Nat → Src) (w : World) (hn : n ≤ 1048576) (hs : Fls w a n p) (hR : Rises (ks p) n) :
    Calls Try.prog 21 #[.slice a n c, .string x] w fun e w' => FoundF p n x.toList e ∧ w = w' := by
  go_enter Try.func21, Try.ntmps21
  go_wp2
  go_loop [5, 6] (fun lo hi => ∃ l h : Nat, lo = .int .i64 l ∧ hi = .int .i64 h ∧ Srch (ks p) n x.toList l h) (fun lo hi => (intOf hi).toNat - (intOf lo).toNat)
  case atStart => exact ⟨0, n, rfl, rfl, srch_start _ _ _⟩
  case round =>
    obtain ⟨l, h, rfl, rfl, hS⟩ := hrel
    have hlh := hS.1
    have hhn := hS.2.1
    by_cases hlt : l < h
    · obtain ⟨b, o, rfl, hb, hc⟩ := hs (by omega)
      have hck := (hc (l + (h - l) / 2) (by omega)).1
      clear hc hs
      cases hL : Op.bytesLess (p (l + (h - l) / 2)).key.toList x.toList
      · go_wp2
        go_round
        case rel => exact ⟨l, l + (h - l) / 2, rfl, by go_num, srch_left hR hS (by omega) (by omega) hL⟩
        case measure => simp only [intOf]; omega
      · go_wp2
        go_round
        case rel => exact ⟨l + (h - l) / 2 + 1, h, by go_num, rfl, srch_right hR hS (by omega) (by omega) hL⟩
        case measure => simp only [intOf]; omega
    · obtain rfl : l = h := by omega
      by_cases hln : l < n
      · obtain ⟨b, o, rfl, hb, hc⟩ := hs (by omega)
        have hck := (hc l hln).1
        clear hc hs
        cases hE : ((p l).key.toList == x.toList)
        · go_wp2
          go_ret
          exact ⟨Or.inl ⟨rfl, srch_miss hR hS (fun _ e => by unfold ks at e; rw [e] at hE; simp at hE)⟩, rfl⟩
        · go_wp2
          go_ret
          exact ⟨Or.inr ⟨l, hln, rfl, by simpa [ks] using hE⟩, rfl⟩
      · go_wp2
        go_ret
        exact ⟨Or.inl ⟨rfl, srch_miss hR hS (fun h => absurd h hln)⟩, rfl⟩

/-- Few flags, each of few bytes. -/
def Fit (n : Nat) (p : Nat → Src) : Prop := n ≤ 1048576 ∧ ∀ i, i < n → (p i).key.size ≤ 1048576 ∧ (p i).jl ≤ 1048576

set_option maxRecDepth 100000 in
set_option maxHeartbeats 1600000 in
theorem zz14_any (a0 : Option Addr) (n0 c0 : Nat) (p0 : Nat → Src) (a1 : Option Addr) (n1 c1 : Nat) (p1 : Nat → Src) (w : World) (hn0 : n0 ≤ maxLen) (hp0 : ∀ i, i < n0 → (p0 i).key.size ≤ maxLen ∧ (p0 i).jl ≤ maxLen) (hs0 : Fls w a0 n0 p0) (hn1 : n1 ≤ maxLen) (hp1 : ∀ i, i < n1 → (p1 i).key.size ≤ maxLen ∧ (p1 i).jl ≤ maxLen) (hs1 : Fls w a1 n1 p1) :
    Calls Try.prog 14 #[.slice a0 n0 c0, .slice a1 n1 c1] w fun e w' => BoolT (Fit n0 p0 ∧ Fit n1 p1) e ∧ w = w' := by
  have hM : maxLen = 9223372036854775807 := rfl
  go_enter Try.func14, Try.ntmps14
  by_cases g0 : (1048576 : Int) < (n0 : Int)
  · go_wp2
    go_ret
    exact ⟨BoolT.no, rfl⟩
  go_wp2
  go_loop [5, 6] (fun z i => ∃ (k : Nat) (m : Int), k ≤ n0 ∧ 0 ≤ m ∧ m ≤ 1048576 ∧ z = .int .i64 m ∧ i = .int .i64 k ∧ ∀ j, j < k → (p0 j).key.size ≤ 1048576 ∧ (p0 j).jl ≤ 1048576) (fun _ i => n0 - (intOf i).toNat)
  case atStart => exact ⟨0, (n0 : Int), Nat.zero_le _, by omega, by omega, rfl, rfl, fun j h => absurd h (Nat.not_lt_zero j)⟩
  case round =>
    obtain ⟨k, m0, hk, ml, mh, rfl, rfl, F0⟩ := hrel
    by_cases hlt : k < n0
    · obtain ⟨b, o, rfl, hb, hc⟩ := hs0 (by omega)
      obtain ⟨d0, d1, _⟩ := hc k hlt
      obtain ⟨q0, q1⟩ := hp0 k hlt
      clear hc
      by_cases t0 : (1048576 : Int) < ((p0 k).key.size : Int)
      · go_wp2
        go_ret
        exact ⟨BoolT.no, rfl⟩
      by_cases t1 : (1048576 : Int) < m0 + ((p0 k).key.size : Int)
      · go_wp2
        go_ret
        exact ⟨BoolT.no, rfl⟩
      by_cases t2 : (1048576 : Int) < ((p0 k).jl : Int)
      · go_wp2
        go_ret
        exact ⟨BoolT.no, rfl⟩
      by_cases t3 : (1048576 : Int) < m0 + ((p0 k).key.size : Int) + ((p0 k).jl : Int)
      · go_wp2
        go_ret
        exact ⟨BoolT.no, rfl⟩
      by_cases t4 : (1048576 : Int) < m0 + ((p0 k).key.size : Int) + ((p0 k).jl : Int) + 32
      · go_wp2
        go_ret
        exact ⟨BoolT.no, rfl⟩
      go_wp2
      go_round
      case rel =>
        refine ⟨k + 1, m0 + (p0 k).key.size + (p0 k).jl + 32, by omega, by omega, by omega, rfl, by go_num, fun j hj => ?_⟩
        by_cases e : j = k
        · subst e; omega
        · exact F0 j (by omega)
      case measure => simp [intOf]; omega
    · obtain rfl : k = n0 := by omega
      by_cases g1 : (1048576 : Int) < (n1 : Int)
      · go_wp2
        go_ret
        exact ⟨BoolT.no, rfl⟩
      by_cases g1t : (1048576 : Int) < m0 + (n1 : Int)
      · go_wp2
        go_ret
        exact ⟨BoolT.no, rfl⟩
      go_wp2
      go_loop [5, 7] (fun z i => ∃ (k : Nat) (m : Int), k ≤ n1 ∧ 0 ≤ m ∧ m ≤ 1048576 ∧ z = .int .i64 m ∧ i = .int .i64 k ∧ ∀ j, j < k → (p1 j).key.size ≤ 1048576 ∧ (p1 j).jl ≤ 1048576) (fun _ i => n1 - (intOf i).toNat)
      case atStart => exact ⟨0, m0 + n1, Nat.zero_le _, by omega, by omega, rfl, rfl, fun j h => absurd h (Nat.not_lt_zero j)⟩
      case round =>
        obtain ⟨k, m1, hk, ml, mh, rfl, rfl, F1⟩ := hrel
        by_cases hlt : k < n1
        · obtain ⟨b, o, rfl, hb, hc⟩ := hs1 (by omega)
          obtain ⟨d0, d1, _⟩ := hc k hlt
          obtain ⟨q0, q1⟩ := hp1 k hlt
          clear hc
          by_cases t0 : (1048576 : Int) < ((p1 k).key.size : Int)
          · go_wp2
            go_ret
            exact ⟨BoolT.no, rfl⟩
          by_cases t1 : (1048576 : Int) < m1 + ((p1 k).key.size : Int)
          · go_wp2
            go_ret
            exact ⟨BoolT.no, rfl⟩
          by_cases t2 : (1048576 : Int) < ((p1 k).jl : Int)
          · go_wp2
            go_ret
            exact ⟨BoolT.no, rfl⟩
          by_cases t3 : (1048576 : Int) < m1 + ((p1 k).key.size : Int) + ((p1 k).jl : Int)
          · go_wp2
            go_ret
            exact ⟨BoolT.no, rfl⟩
          by_cases t4 : (1048576 : Int) < m1 + ((p1 k).key.size : Int) + ((p1 k).jl : Int) + 32
          · go_wp2
            go_ret
            exact ⟨BoolT.no, rfl⟩
          go_wp2
          go_round
          case rel =>
            refine ⟨k + 1, m1 + (p1 k).key.size + (p1 k).jl + 32, by omega, by omega, by omega, rfl, by go_num, fun j hj => ?_⟩
            by_cases e : j = k
            · subst e; omega
            · exact F1 j (by omega)
          case measure => simp [intOf]; omega
        · obtain rfl : k = n1 := by omega
          go_wp2
          go_ret
          exact ⟨BoolT.yes ⟨⟨by omega, F0⟩, ⟨by omega, F1⟩⟩, rfl⟩

set_option maxRecDepth 100000 in
set_option maxHeartbeats 1600000 in
theorem zz23_any (a0 : Option Addr) (n0 c0 : Nat) (p0 : Nat → Src) (a1 : Option Addr) (n1 c1 : Nat) (p1 : Nat → Src) (a2 : Option Addr) (n2 c2 : Nat) (p2 : Nat → Src) (w : World) (hn0 : n0 ≤ maxLen) (hp0 : ∀ i, i < n0 → (p0 i).key.size ≤ maxLen ∧ (p0 i).jl ≤ maxLen) (hs0 : Fls w a0 n0 p0) (hn1 : n1 ≤ maxLen) (hp1 : ∀ i, i < n1 → (p1 i).key.size ≤ maxLen ∧ (p1 i).jl ≤ maxLen) (hs1 : Fls w a1 n1 p1) (hn2 : n2 ≤ maxLen) (hp2 : ∀ i, i < n2 → (p2 i).key.size ≤ maxLen ∧ (p2 i).jl ≤ maxLen) (hs2 : Fls w a2 n2 p2) :
    Calls Try.prog 23 #[.slice a0 n0 c0, .slice a1 n1 c1, .slice a2 n2 c2] w fun e w' => BoolT (Fit n0 p0 ∧ Fit n1 p1 ∧ Fit n2 p2) e ∧ w = w' := by
  have hM : maxLen = 9223372036854775807 := rfl
  go_enter Try.func23, Try.ntmps23
  by_cases g0 : (1048576 : Int) < (n0 : Int)
  · go_wp2
    go_ret
    exact ⟨BoolT.no, rfl⟩
  go_wp2
  go_loop [7, 8] (fun z i => ∃ (k : Nat) (m : Int), k ≤ n0 ∧ 0 ≤ m ∧ m ≤ 1048576 ∧ z = .int .i64 m ∧ i = .int .i64 k ∧ ∀ j, j < k → (p0 j).key.size ≤ 1048576 ∧ (p0 j).jl ≤ 1048576) (fun _ i => n0 - (intOf i).toNat)
  case atStart => exact ⟨0, (n0 : Int), Nat.zero_le _, by omega, by omega, rfl, rfl, fun j h => absurd h (Nat.not_lt_zero j)⟩
  case round =>
    obtain ⟨k, m0, hk, ml, mh, rfl, rfl, F0⟩ := hrel
    by_cases hlt : k < n0
    · obtain ⟨b, o, rfl, hb, hc⟩ := hs0 (by omega)
      obtain ⟨d0, d1, _⟩ := hc k hlt
      obtain ⟨q0, q1⟩ := hp0 k hlt
      clear hc
      by_cases t0 : (1048576 : Int) < ((p0 k).key.size : Int)
      · go_wp2
        go_ret
        exact ⟨BoolT.no, rfl⟩
      by_cases t1 : (1048576 : Int) < m0 + ((p0 k).key.size : Int)
      · go_wp2
        go_ret
        exact ⟨BoolT.no, rfl⟩
      by_cases t2 : (1048576 : Int) < ((p0 k).jl : Int)
      · go_wp2
        go_ret
        exact ⟨BoolT.no, rfl⟩
      by_cases t3 : (1048576 : Int) < m0 + ((p0 k).key.size : Int) + ((p0 k).jl : Int)
      · go_wp2
        go_ret
        exact ⟨BoolT.no, rfl⟩
      by_cases t4 : (1048576 : Int) < m0 + ((p0 k).key.size : Int) + ((p0 k).jl : Int) + 32
      · go_wp2
        go_ret
        exact ⟨BoolT.no, rfl⟩
      go_wp2
      go_round
      case rel =>
        refine ⟨k + 1, m0 + (p0 k).key.size + (p0 k).jl + 32, by omega, by omega, by omega, rfl, by go_num, fun j hj => ?_⟩
        by_cases e : j = k
        · subst e; omega
        · exact F0 j (by omega)
      case measure => simp [intOf]; omega
    · obtain rfl : k = n0 := by omega
      by_cases g1 : (1048576 : Int) < (n1 : Int)
      · go_wp2
        go_ret
        exact ⟨BoolT.no, rfl⟩
      by_cases g1t : (1048576 : Int) < m0 + (n1 : Int)
      · go_wp2
        go_ret
        exact ⟨BoolT.no, rfl⟩
      go_wp2
      go_loop [7, 9] (fun z i => ∃ (k : Nat) (m : Int), k ≤ n1 ∧ 0 ≤ m ∧ m ≤ 1048576 ∧ z = .int .i64 m ∧ i = .int .i64 k ∧ ∀ j, j < k → (p1 j).key.size ≤ 1048576 ∧ (p1 j).jl ≤ 1048576) (fun _ i => n1 - (intOf i).toNat)
      case atStart => exact ⟨0, m0 + n1, Nat.zero_le _, by omega, by omega, rfl, rfl, fun j h => absurd h (Nat.not_lt_zero j)⟩
      case round =>
        obtain ⟨k, m1, hk, ml, mh, rfl, rfl, F1⟩ := hrel
        by_cases hlt : k < n1
        · obtain ⟨b, o, rfl, hb, hc⟩ := hs1 (by omega)
          obtain ⟨d0, d1, _⟩ := hc k hlt
          obtain ⟨q0, q1⟩ := hp1 k hlt
          clear hc
          by_cases t0 : (1048576 : Int) < ((p1 k).key.size : Int)
          · go_wp2
            go_ret
            exact ⟨BoolT.no, rfl⟩
          by_cases t1 : (1048576 : Int) < m1 + ((p1 k).key.size : Int)
          · go_wp2
            go_ret
            exact ⟨BoolT.no, rfl⟩
          by_cases t2 : (1048576 : Int) < ((p1 k).jl : Int)
          · go_wp2
            go_ret
            exact ⟨BoolT.no, rfl⟩
          by_cases t3 : (1048576 : Int) < m1 + ((p1 k).key.size : Int) + ((p1 k).jl : Int)
          · go_wp2
            go_ret
            exact ⟨BoolT.no, rfl⟩
          by_cases t4 : (1048576 : Int) < m1 + ((p1 k).key.size : Int) + ((p1 k).jl : Int) + 32
          · go_wp2
            go_ret
            exact ⟨BoolT.no, rfl⟩
          go_wp2
          go_round
          case rel =>
            refine ⟨k + 1, m1 + (p1 k).key.size + (p1 k).jl + 32, by omega, by omega, by omega, rfl, by go_num, fun j hj => ?_⟩
            by_cases e : j = k
            · subst e; omega
            · exact F1 j (by omega)
          case measure => simp [intOf]; omega
        · obtain rfl : k = n1 := by omega
          by_cases g2 : (1048576 : Int) < (n2 : Int)
          · go_wp2
            go_ret
            exact ⟨BoolT.no, rfl⟩
          by_cases g2t : (1048576 : Int) < m1 + (n2 : Int)
          · go_wp2
            go_ret
            exact ⟨BoolT.no, rfl⟩
          go_wp2
          go_loop [7, 10] (fun z i => ∃ (k : Nat) (m : Int), k ≤ n2 ∧ 0 ≤ m ∧ m ≤ 1048576 ∧ z = .int .i64 m ∧ i = .int .i64 k ∧ ∀ j, j < k → (p2 j).key.size ≤ 1048576 ∧ (p2 j).jl ≤ 1048576) (fun _ i => n2 - (intOf i).toNat)
          case atStart => exact ⟨0, m1 + n2, Nat.zero_le _, by omega, by omega, rfl, rfl, fun j h => absurd h (Nat.not_lt_zero j)⟩
          case round =>
            obtain ⟨k, m2, hk, ml, mh, rfl, rfl, F2⟩ := hrel
            by_cases hlt : k < n2
            · obtain ⟨b, o, rfl, hb, hc⟩ := hs2 (by omega)
              obtain ⟨d0, d1, _⟩ := hc k hlt
              obtain ⟨q0, q1⟩ := hp2 k hlt
              clear hc
              by_cases t0 : (1048576 : Int) < ((p2 k).key.size : Int)
              · go_wp2
                go_ret
                exact ⟨BoolT.no, rfl⟩
              by_cases t1 : (1048576 : Int) < m2 + ((p2 k).key.size : Int)
              · go_wp2
                go_ret
                exact ⟨BoolT.no, rfl⟩
              by_cases t2 : (1048576 : Int) < ((p2 k).jl : Int)
              · go_wp2
                go_ret
                exact ⟨BoolT.no, rfl⟩
              by_cases t3 : (1048576 : Int) < m2 + ((p2 k).key.size : Int) + ((p2 k).jl : Int)
              · go_wp2
                go_ret
                exact ⟨BoolT.no, rfl⟩
              by_cases t4 : (1048576 : Int) < m2 + ((p2 k).key.size : Int) + ((p2 k).jl : Int) + 32
              · go_wp2
                go_ret
                exact ⟨BoolT.no, rfl⟩
              go_wp2
              go_round
              case rel =>
                refine ⟨k + 1, m2 + (p2 k).key.size + (p2 k).jl + 32, by omega, by omega, by omega, rfl, by go_num, fun j hj => ?_⟩
                by_cases e : j = k
                · subst e; omega
                · exact F2 j (by omega)
              case measure => simp [intOf]; omega
            · obtain rfl : k = n2 := by omega
              go_wp2
              go_ret
              exact ⟨BoolT.yes ⟨⟨by omega, F0⟩, ⟨by omega, F1⟩, ⟨by omega, F2⟩⟩, rfl⟩

end Go.Proofs.Qxb6615042a
