/- FnNewRulesRefusesMatcherlessRules: the law's walk, for every F. -/
import Derived.Test.Qxb6615008aFmtCalls
import Derived.Deep.OwnRows
namespace Go.Proofs.Qxb6615008aFmt
open Go.RowKit Go.Stop

theorem info28 : (Tryf.prog.info? 28).map (fun i => (i.zero, i.size, i.bytes)) = some (some (.agg #[.string ⟨#[]⟩, .nilIface]), 2, 32) := by kernel_rfl

/-- The rules' cells behind k rounds. -/
def rf (p : Nat → ByteArray) (k i : Nat) : Value := if i % 2 = 1 then .nilIface else if i < 2 * k then .string (p (i / 2)) else .string ⟨#[]⟩

theorem made_row (w : World) (n : Nat) (p : Nat → ByteArray) : (w.alloc (.cells (madeCells #[.string ⟨#[]⟩, .nilIface] (n * 2)) 28)).rowIs w.heap.size 28 (n * 2) (rf p 0) := by
  refine ⟨_, Deep.blk_alloc_new _ _, size_madeCells _ _, fun i hi => ?_⟩
  have h2 : i % 2 = 0 ∨ i % 2 = 1 := by omega
  rcases h2 with h | h <;> simp [madeCells, hi, rf, h]

theorem rf_step (p : Nat → ByteArray) (k i : Nat) : (if i = k * 2 + 1 then Value.nilIface else if i = k * 2 then .string (p k) else rf p k i) = rf p (k + 1) i := by
  unfold rf
  by_cases h1 : i = k * 2 + 1
  · rw [if_pos h1, if_pos (by omega)]
  · rw [if_neg h1]
    by_cases h2 : i = k * 2
    · rw [if_pos h2, if_neg (by omega), if_pos (by omega)]
      rw [show i / 2 = k by omega]
    · rw [if_neg h2]
      by_cases h3 : i % 2 = 1
      · rw [if_pos h3, if_pos h3]
      · rw [if_neg h3, if_neg h3]
        by_cases h4 : i < 2 * k
        · rw [if_pos h4, if_pos (by omega)]
        · rw [if_neg h4, if_neg (by omega)]

set_option maxHeartbeats 800000 in
theorem law_some (F : Interp) (x : Addr) (len cap : Nat) (p : Nat → ByteArray) (w : World) (hF : F.answers w.tape) (hm : len ≤ maxLen) (hp : ∀ i, (p i).size ≤ maxLen) (hs : Strs w (some x) len p) :
    Calls Tryf.prog 3 #[.slice (some x) len cap] w fun e w' => e = .returned (.bool true) ∧ Below w.heap.size w w' := by
  have P4 := bytes4_any (some x) len cap p w hm hp hs
  have P5 := big5_any (some x) len cap p w hm hp hs
  have hmL : len ≤ 9223372036854775807 := hm
  obtain ⟨i28, hi, hz0, hz1, hz2⟩ := info_parts info28
  go_enter Tryf.func3, Tryf.ntmps3
  go_wp2_with fail
  refine P4.mono ?_
  rintro e w' ⟨⟨b, rfl, -⟩, rfl⟩
  clear P4
  cases b
  · go_wp2
    go_ret
    exact ⟨rfl, Below.refl _ _⟩
  · go_wp2_with fail
    refine P5.mono ?_
    rintro e w' ⟨⟨b, rfl, hb⟩, rfl⟩
    clear P5
    cases b
    · have hlen := hb rfl
      clear hb
      have q22 : ∀ (w : World) (a : Option Addr) (n c : Nat), (binOp .neq 22 (.slice a n c) (.slice none 0 0)).run Tryf.prog w = .ok (.bool (!a.isNone)) w := fun w a n c => run_neq_slice_nil w 22 9 a n c Tryf.underlying22
      have hmk : ∀ w : World, (Instr.makeSlice 24 (.int .i64 (len : Int)) (.int .i64 (len : Int))).run Tryf.prog w = .ok (.slice (some ⟨w.heap.size, 0, none⟩) len len) (w.alloc (.cells (madeCells #[.string ⟨#[]⟩, .nilIface] (len * 2)) 28)) := by
        intro w
        have := run_make (P := Tryf.prog) w 24 28 i28 _ Tryf.underlying24 hi hz0 .i64 .i64 (len : Int) (len : Int) (by omega) (Int.le_refl _) (by rw [hz2]; omega) (by omega)
        simpa [hz1, Value.cells] using this
      go_wp2
      go_loopw [4] (fun i wr => ∃ k : Nat, k ≤ len ∧ i = .int .i64 k ∧ wr.rowIs w.heap.size 28 (len * 2) (rf p k) ∧ Below w.heap.size w wr) (fun i _ => len - (intOf i).toNat)
      case atStart => exact ⟨0, Nat.zero_le _, rfl, made_row w len p, (Below.refl _ _).alloc (Nat.le_refl _) _⟩
      case round =>
        obtain ⟨k, hk, rfl, hr, bel⟩ := hrel
        by_cases hlt : k < len
        · obtain ⟨b, o, hx, hb, hc⟩ := hs (by omega)
          obtain rfl : x = ⟨b, o, none⟩ := by injection hx
          have hck : wr.cell? ⟨b, o + k, none⟩ = some (.string (p k)) := (bel.cell (p := ⟨b, o + k, none⟩) hb).trans (hc k hlt)
          have c0 := hr.cell (i := k * 2) (by omega)
          have c1 := hr.cell (i := k * 2 + 1) (by omega)
          have f0 := hr.frozen (k * 2)
          have f1 := hr.frozen (k * 2 + 1)
          clear hc hs hx hmk q22
          go_wp2
          go_roundw
          case rel =>
            refine ⟨k + 1, by omega, by go_num, ?_, (bel.setCell (p := ⟨w.heap.size, k * 2, none⟩) (Nat.le_refl _) _).setCell (p := ⟨w.heap.size, k * 2 + 1, none⟩) (Nat.le_refl _) _⟩
            exact ((hr.set (k * 2) (.string (p k))).set (k * 2 + 1) .nilIface).congr (fun i _ => rf_step p k i)
          case measure => simp [intOf]; omega
        · have hF1 : F.answers wr.tape := by rw [bel.tape]; exact hF
          clear hmk q22 hs
          by_cases h0 : len = 0
          · subst h0
            have P6 := new6_zero (some ⟨w.heap.size, 0, none⟩) 0 wr (clone11_some _ _ _)
            go_wp2_with fail
            refine P6.mono ?_
            rintro e w2 ⟨⟨g, rfl, a', c', hc⟩, b2⟩
            have P7 := len7_any g a' c' w2 hc
            go_wp2_with (go_at_call 7; refine P7.mono ?_; rintro e w' ⟨rfl, rfl⟩)
            go_ret
            exact ⟨rfl, bel.trans (b2.mono bel.size)⟩
          · have c0 : wr.cell? ⟨w.heap.size, 0, none⟩ = some (.string (p 0)) := (hr.cell (by omega)).trans (by unfold rf; rw [if_neg (by omega), if_pos (by omega)])
            have c1 : wr.cell? ⟨w.heap.size, 1, none⟩ = some .nilIface := (hr.cell (by omega)).trans (by unfold rf; rw [if_pos (by omega)])
            have P6 := new6_pos F w.heap.size len len _ wr hF1 (by omega) (by omega) c0 c1
            have h1 : ((len : Int) == 0) = false := by simp; omega
            clear c0 c1
            go_wp2_with fail
            refine P6.mono ?_
            rintro e w2 ⟨⟨a, rfl⟩, b2⟩
            go_wp2
            go_ret
            exact ⟨rfl, bel.trans (b2.mono bel.size)⟩
    · go_wp2
      go_ret
      exact ⟨rfl, Below.refl _ _⟩

set_option maxHeartbeats 800000 in
theorem law_none (w : World) :
    Calls Tryf.prog 3 #[.slice none 0 0] w fun e w' => e = .returned (.bool true) ∧ Below w.heap.size w w' := by
  have hs : Strs w none 0 (fun _ => ⟨#[]⟩) := fun h => absurd h (Nat.lt_irrefl 0)
  have P4 := bytes4_any none 0 0 _ w (by unfold maxLen; omega) (fun _ => by simp [ByteArray.size]) hs
  have P5 := big5_any none 0 0 _ w (by unfold maxLen; omega) (fun _ => by simp [ByteArray.size]) hs
  go_enter Tryf.func3, Tryf.ntmps3
  go_wp2_with fail
  refine P4.mono ?_
  rintro e w' ⟨⟨b, rfl, -⟩, rfl⟩
  clear P4
  cases b
  · go_wp2
    go_ret
    exact ⟨rfl, Below.refl _ _⟩
  · go_wp2_with fail
    refine P5.mono ?_
    rintro e w' ⟨⟨b, rfl, hb⟩, rfl⟩
    clear P5 hb
    cases b
    · have q22 : ∀ (w : World) (a : Option Addr) (n c : Nat), (binOp .neq 22 (.slice a n c) (.slice none 0 0)).run Tryf.prog w = .ok (.bool (!a.isNone)) w := fun w a n c => run_neq_slice_nil w 22 9 a n c Tryf.underlying22
      have P6 := new6_zero none 0 w (clone11_none _)
      go_wp2_with fail
      refine P6.mono ?_
      rintro e w2 ⟨⟨g, rfl, a', c', hc⟩, b2⟩
      have P7 := len7_any g a' c' w2 hc
      go_wp2_with (go_at_call 7; refine P7.mono ?_; rintro e w' ⟨rfl, rfl⟩)
      go_ret
      exact ⟨rfl, b2⟩
    · go_wp2
      go_ret
      exact ⟨rfl, Below.refl _ _⟩
end Go.Proofs.Qxb6615008aFmt
