/- FnU16PairLaysJoinedWord: the walk. -/
import Derived.Test.Qxb6614995aBytes
import Derived.Deep.QuietTactic
import Derived.BigQuiet
namespace Go.Proofs.Qxb6614995a
open Go.RowKit Go.WideShapes

theorem bytes21_any (a : Option Addr) (len cap : Nat) (x y z : Int) (w : World) (hm : len ≤ maxLen) :
    Calls Try.prog 21 #[.slice a len cap, .int .i64 x, .int .u16 y, .int .u16 z] w fun e w' => e = .returned (.bool (decide (len ≤ 1048576))) ∧ w = w' := by
  unfold maxLen at hm
  by_cases h : len ≤ 1048576
  · go_enter Try.func21, Try.ntmps21
    go_wp2
    go_ret
    exact ⟨by simp [h], rfl⟩
  · go_enter Try.func21, Try.ntmps21
    go_wp2
    go_ret
    exact ⟨by simp [h], rfl⟩

theorem or32 (i : Nat) (x y : Int) (hx₀ : 0 ≤ x) (hx : x % 2 ^ i = 0) (hx₁ : x < 4294967296) (hy₀ : 0 ≤ y) (hy : y < 2 ^ i) (hy₁ : y < 4294967296) : bits .or .u32 x y = x + y :=
  bits_join .u32 32 (by decide) (fun n h0 h1 => by rw [IntKind.wrap_u32]; omega) i x y hx₀ hx hx₁ hy₀ hy hy₁

theorem word_eq (hi lo : Int) (h0 : 0 ≤ hi) (h1 : hi ≤ 65535) (l0 : 0 ≤ lo) (l1 : lo ≤ 65535) :
    (bits BinOp.or IntKind.u32 (bits BinOp.or IntKind.u32 (bits BinOp.or IntKind.u32 (hi / 256 * 16777216) (hi % 256 * 65536)) (lo / 256 * 256)) (lo % 256) !=
      bits BinOp.or IntKind.u32 (hi * 65536) lo) = false := by
  rw [or32 24 (hi / 256 * 16777216) (hi % 256 * 65536) (by omega) (by omega) (by omega) (by omega) (by omega) (by omega)]
  rw [or32 16 _ (lo / 256 * 256) (by omega) (by omega) (by omega) (by omega) (by omega) (by omega)]
  rw [or32 8 _ (lo % 256) (by omega) (by omega) (by omega) (by omega) (by omega) (by omega)]
  rw [or32 16 (hi * 65536) lo (by omega) (by omega) (by omega) (by omega) (by omega) (by omega)]
  have : hi / 256 * 16777216 + hi % 256 * 65536 + lo / 256 * 256 + lo % 256 = hi * 65536 + lo := by omega
  rw [this]
  simp

/-- What the two fields leave. -/
def pairB (off : Nat) (hi lo : Int) (f : Nat → Int) (i : Nat) : Int :=
  if i = off + 2 then lo / 256 else if i = off + 2 + 1 then lo % 256 else if i = off then hi / 256 else if i = off + 1 then hi % 256 else f i
theorem pairB0 (off : Nat) (hi lo : Int) (f : Nat → Int) : pairB off hi lo f off = hi / 256 := by unfold pairB; rw [if_neg (by omega), if_neg (by omega), if_pos rfl]
theorem pairB1 (off : Nat) (hi lo : Int) (f : Nat → Int) : pairB off hi lo f (off + 1) = hi % 256 := by unfold pairB; rw [if_neg (by omega), if_neg (by omega), if_neg (by omega), if_pos rfl]
theorem pairB2 (off : Nat) (hi lo : Int) (f : Nat → Int) : pairB off hi lo f (off + 2) = lo / 256 := by unfold pairB; rw [if_pos rfl]
theorem pairB3 (off : Nat) (hi lo : Int) (f : Nat → Int) : pairB off hi lo f (off + 3) = lo % 256 := by unfold pairB; rw [if_neg (by omega), if_pos (by omega)]
theorem pairBx (off : Nat) (hi lo : Int) (f : Nat → Int) (i : Nat) (h : i < off ∨ off + 4 ≤ i) : pairB off hi lo f i = f i := by unfold pairB; rw [if_neg (by omega), if_neg (by omega), if_neg (by omega), if_neg (by omega)]

set_option maxHeartbeats 800000 in
theorem pair_core (b off0 len cap : Nat) (zs : List Int) (off : Nat) (hi lo : Int) (w : World) (hl : len ≤ zs.length) (hm : len ≤ 1048576) (ho : off + 4 ≤ len)
    (h0 : 0 ≤ hi) (h1 : hi ≤ 65535) (l0 : 0 ≤ lo) (l1 : lo ≤ 65535)
    (hc : ∀ i, i < zs.length → w.cell? ⟨b, off0 + i, none⟩ = some (.int .u8 (zs.getD i 0))) :
    Calls Try.prog 5 #[.slice (some ⟨b, off0, none⟩) len cap, .int .i64 (off : Int), .int .u16 hi, .int .u16 lo] w fun e w' => e = .returned (.bool true) ∧ Below w.heap.size w w' := by
  have hb : b < w.heap.size := by have := World.block_lt_of_cell? _ _ (hc 0 (by omega)); simpa using this
  have P0 : Calls Try.prog 21 #[.slice (some ⟨b, off0, none⟩) len cap, .int .i64 (off : Int), .int .u16 hi, .int .u16 lo] w fun e w' => e = .returned (.bool true) ∧ w = w' := by
    have := bytes21_any (some ⟨b, off0, none⟩) len cap off hi lo w (by unfold maxLen; omega)
    simpa [hm] using this
  have P1 := clone_any ⟨b, off0, none⟩ len cap zs w hl hm (fun i hi => by rw [add_plain]; exact hc i hi)
  have P2 := fun w => newW_any w.heap.size len off w
  go_enter Try.func5, Try.ntmps5
  go_wp2_with fail
  refine P0.mono ?_
  rintro e w' ⟨rfl, rfl⟩
  go_wp2_with fail
  refine P1.mono ?_
  rintro e w1 ⟨rfl, r1, b1, s1⟩
  go_wp2_with fail
  refine (newW_any _ _ _ _).mono ?_
  rintro e w2 ⟨rfl, q2, t2, s2⟩
  have r2 := t2.row r1 (fun h => h)
  rw [s1] at q2 s2
  rw [s1]
  go_wp2_with fail
  refine (zzu16_any _ _ _ _ _ _ h0 h1 _ (by omega) hm (by omega) r2 q2).mono ?_
  rintro e w3 ⟨rfl, r3, q3, t3⟩
  go_wp2_with fail
  refine (zzu16_any _ _ _ (off + 2) _ _ l0 l1 _ (by omega) hm (by omega) r3 (by simpa using q3)).mono ?_
  rintro e w4 ⟨rfl, r4, q4, t4⟩
  go_wp2_with fail
  have q4' : w4.rowIs (w.heap.size + 1) 87 2 (wcell w.heap.size len ((off : Int) + 4)) := q4.congr (fun i _ => by unfold wcell; split <;> first | rfl | (congr 1; omega))
  clear q4
  refine (woff_any _ _ _ _ _ q4').mono ?_
  rintro e w' ⟨rfl, rfl⟩
  go_wp2_with fail
  refine (wb_any _ _ _ _ _ q4').mono ?_
  rintro e w' ⟨rfl, rfl⟩
  have bel : Below w.heap.size w w4 := ((b1.trans (t2.below (by omega) (fun k h => h.elim))).trans (t3.below (by omega) (fun k h => by omega))).trans (t4.below (by have := t3.size; omega) (fun k h => by omega))
  replace r4 : w4.rowIs w.heap.size 5 len (fun i => .int .u8 (pairB off hi lo (fun i => zs.getD i 0) i)) := r4
  have k0 : w4.cell? ⟨w.heap.size, off, none⟩ = some (.int .u8 (hi / 256)) := (r4.cell (by omega)).trans (by first | rw [pairB0] | rw [pairB1] | rw [pairB2] | rw [pairB3])
  have k1 : w4.cell? ⟨w.heap.size, off + 1, none⟩ = some (.int .u8 (hi % 256)) := (r4.cell (by omega)).trans (by first | rw [pairB0] | rw [pairB1] | rw [pairB2] | rw [pairB3])
  have k2 : w4.cell? ⟨w.heap.size, off + 2, none⟩ = some (.int .u8 (lo / 256)) := (r4.cell (by omega)).trans (by first | rw [pairB0] | rw [pairB1] | rw [pairB2] | rw [pairB3])
  have k3 : w4.cell? ⟨w.heap.size, off + 3, none⟩ = some (.int .u8 (lo % 256)) := (r4.cell (by omega)).trans (by first | rw [pairB0] | rw [pairB1] | rw [pairB2] | rw [pairB3])
  have i0 : (off : Int) < (len : Int) := by omega
  have i1 : (off : Int) + 1 < (len : Int) := by omega
  have i2 : (off : Int) + 2 < (len : Int) := by omega
  have i3 : (off : Int) + 3 < (len : Int) := by omega
  clear P0 P1 P2 r1 r2 r3 q2 q3 t2 t3 t4 b1
  have we := word_eq hi lo h0 h1 l0 l1
  go_wp2_with fail
  go_quiet (fail)
  go_wp2
  clear we k0 k1 k2 k3 i0 i1 i2 i3 q4'
  go_loopw [13] (fun i wr => ∃ k : Nat, k ≤ len ∧ i = .int .i64 k ∧ Below w.heap.size w wr ∧ wr.rowIs w.heap.size 5 len (fun i => .int .u8 (pairB off hi lo (fun i => zs.getD i 0) i)))
    (fun i _ => len - (intOf i).toNat)
  case atStart => exact ⟨0, Nat.zero_le _, rfl, bel.trans ⟨rfl, rfl, rfl, Nat.le_refl _, fun _ _ => rfl⟩, r4⟩
  case round =>
    clear bel r4
    obtain ⟨k, hk, rfl, bel, r4⟩ := hrel
    by_cases hlt : k < len
    · by_cases hin : off ≤ k ∧ k < off + 4
      · have g1 : (off : Int) ≤ (k : Int) := by omega
        have g2 : (k : Int) < (off : Int) + 4 := by omega
        go_wp2
        go_roundw
        case rel => exact ⟨k + 1, by omega, by go_num, bel, r4⟩
        case measure => simp [intOf]; omega
      · have cx : wr.cell? ⟨b, off0 + k, none⟩ = some (.int .u8 (zs.getD k 0)) := (bel.cell (p := ⟨b, off0 + k, none⟩) hb).trans (hc k (by omega))
        have cy : wr.cell? ⟨w.heap.size, k, none⟩ = some (.int .u8 (zs.getD k 0)) := (r4.cell hlt).trans (by rw [pairBx _ _ _ _ _ (by omega)])
        have g3 : (k : Int) < (len : Int) := by omega
        by_cases g1 : (k : Int) < (off : Int)
        · have g2 : ¬ (off : Int) ≤ (k : Int) := by omega
          clear hc hin
          go_wp2
          go_quiet (fail)
          go_wp2
          go_roundw
          case rel => exact ⟨k + 1, by omega, by go_num, bel.trans ⟨rfl, rfl, rfl, Nat.le_refl _, fun _ _ => rfl⟩, r4⟩
          case measure => simp [intOf]; omega
        · have g2 : ¬ (k : Int) < (off : Int) + 4 := by omega
          clear hc hin
          go_wp2
          go_quiet (fail)
          go_wp2
          go_roundw
          case rel => exact ⟨k + 1, by omega, by go_num, bel.trans ⟨rfl, rfl, rfl, Nat.le_refl _, fun _ _ => rfl⟩, r4⟩
          case measure => simp [intOf]; omega
    · go_wp2
      go_ret
      exact ⟨rfl, bel⟩

theorem wf64 {n : Int} (h : (Lit.int .i64 n).wf = true) : -9223372036854775808 ≤ n ∧ n ≤ 9223372036854775807 := by
  have e1 : IntKind.i64.min = -9223372036854775808 := rfl
  have e2 : IntKind.i64.max = 9223372036854775807 := rfl
  simpa only [Lit.wf, e1, e2, Bool.and_eq_true, decide_eq_true_eq] using h
theorem wf16 {n : Int} (h : (Lit.int .u16 n).wf = true) : 0 ≤ n ∧ n ≤ 65535 := by
  have e1 : IntKind.u16.min = 0 := rfl
  have e2 : IntKind.u16.max = 65535 := rfl
  simpa only [Lit.wf, e1, e2, Bool.and_eq_true, decide_eq_true_eq] using h

/-- Where the law has nothing to say: it returns true at once. -/
theorem pair_early (a : Option Addr) (len cap : Nat) (off hi lo : Int) (w : World) (hm : len ≤ maxLen) (b0 : -9223372036854775808 ≤ off) (b1 : off ≤ 9223372036854775807)
    (h : 1048576 < len ∨ off < 0 ∨ (len : Int) - 4 < off) :
    Calls Try.prog 5 #[.slice a len cap, .int .i64 off, .int .u16 hi, .int .u16 lo] w fun e w' => e = .returned (.bool true) ∧ Below w.heap.size w w' := by
  have P0 := bytes21_any a len cap off hi lo w hm
  unfold maxLen at hm
  by_cases h1 : 1048576 < len
  · have hd : decide (len ≤ 1048576) = false := by simp; omega
    rw [hd] at P0
    go_enter Try.func5, Try.ntmps5
    go_wp2_with (go_at_call 21; refine P0.mono ?_; rintro e w' ⟨rfl, rfl⟩)
    go_ret
    exact ⟨rfl, Below.refl _ _⟩
  · have hd : decide (len ≤ 1048576) = true := by simp; omega
    rw [hd] at P0
    by_cases h2 : off < 0
    · go_enter Try.func5, Try.ntmps5
      go_wp2_with (go_at_call 21; refine P0.mono ?_; rintro e w' ⟨rfl, rfl⟩)
      go_ret
      exact ⟨rfl, Below.refl _ _⟩
    · have h3 : (len : Int) - 4 < off := by omega
      go_enter Try.func5, Try.ntmps5
      go_wp2_with (go_at_call 21; refine P0.mono ?_; rintro e w' ⟨rfl, rfl⟩)
      go_ret
      exact ⟨rfl, Below.refl _ _⟩
end Go.Proofs.Qxb6614995a
