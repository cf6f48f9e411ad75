/- FnU16ScriptWriterAndReaderInStep: the reader's contracts, the walk. -/
import Derived.Test.Qxb6614995aPair
import Derived.Deep.QuietTactic
import Derived.BigQuiet
namespace Go.Proofs.Qxb6614995a
open Go.RowKit Go.WideShapes

theorem newR_any (g n : Nat) (off : Int) (w : World) :
    Calls Try.prog 28 #[.slice (some ⟨g, 0, none⟩) n n, .int .i64 off] w fun e w' => e = .returned (.pointer (some ⟨w.heap.size, 0, none⟩)) ∧
      w'.rowIs w.heap.size 88 2 (wcell g n off) ∧ Turned (fun _ => False) w w' ∧ w'.heap.size = w.heap.size + 1 := by
  go_enter Try.func28, Try.ntmps28
  go_wp2
  go_ret
  refine ⟨rfl, ?_, (Turned.refl _ _).alloc _, by simp⟩
  refine (World.rowIs_alloc w #[.slice (some ⟨g, 0, none⟩) n n, .int .i64 off] 88 (wcell g n off) (fun i hi => ?_))
  have hi' : i < 2 := hi
  match i, hi' with
  | 0, _ => rfl
  | 1, _ => rfl

theorem rcell_read (g n : Nat) (off : Int) (rb : Nat) (w : World) (hw : w.rowIs rb 88 2 (wcell g n off)) :
    w.cell? ⟨rb, 0, none⟩ = some (.slice (some ⟨g, 0, none⟩) n n) ∧ w.cell? ⟨rb, 1, none⟩ = some (.int .i64 off) :=
  ⟨hw.cell (i := 0) (by omega), hw.cell (i := 1) (by omega)⟩

theorem roff_any (g rb n : Nat) (off : Int) (w : World) (hw : w.rowIs rb 88 2 (wcell g n off)) :
    Calls Try.prog 30 #[.pointer (some ⟨rb, 0, none⟩)] w fun e w' => e = .returned (.int .i64 off) ∧ w = w' := by
  obtain ⟨c0, c1⟩ := rcell_read g n off rb w hw
  go_enter Try.func30, Try.ntmps30
  go_wp2
  go_ret
  exact ⟨rfl, rfl⟩

theorem rb_any (g rb n : Nat) (off : Int) (w : World) (hw : w.rowIs rb 88 2 (wcell g n off)) :
    Calls Try.prog 31 #[.pointer (some ⟨rb, 0, none⟩)] w fun e w' => e = .returned (.slice (some ⟨g, 0, none⟩) n n) ∧ w = w' := by
  obtain ⟨c0, c1⟩ := rcell_read g n off rb w hw
  go_enter Try.func31, Try.ntmps31
  go_wp2
  go_ret
  exact ⟨rfl, rfl⟩

theorem rskip_any (g rb n : Nat) (off : Int) (w : World) (h0 : 0 ≤ off) (h1 : off ≤ 1048576) (hw : w.rowIs rb 88 2 (wcell g n off)) :
    Calls Try.prog 29 #[.pointer (some ⟨rb, 0, none⟩), .int .i64 2] w fun e w' => e = .returned (.tuple #[]) ∧
      w'.rowIs rb 88 2 (wcell g n (off + 2)) ∧ Turned (fun k => k = rb) w w' := by
  obtain ⟨c0, c1⟩ := rcell_read g n off rb w hw
  have f1 := hw.frozen 1
  go_enter Try.func29, Try.ntmps29
  go_wp2
  go_end0
  go_wp2
  go_end0
  refine ⟨rfl, ?_, (Turned.refl _ _).setCell (S := fun k => k = rb) (p := ⟨rb, 1, none⟩) rfl _⟩
  refine (hw.set 1 _).congr (fun i hi => ?_)
  by_cases e1 : i = 1
  · subst e1; simp [wcell]
  · have : i = 0 := by omega
    subst this; simp [wcell]

theorem bytes27_any (a a2 : Option Addr) (len cap vlen vcap : Nat) (x : Int) (w : World) (hm : len ≤ maxLen) (hm2 : vlen ≤ maxLen) :
    Calls Try.prog 27 #[.slice a len cap, .int .i64 x, .slice a2 vlen vcap] w fun e w' => e = .returned (.bool (decide (len + vlen ≤ 1048576))) ∧ w = w' := by
  unfold maxLen at hm hm2
  by_cases h : len ≤ 1048576
  · by_cases h2 : vlen ≤ 1048576
    · by_cases h3 : (len : Int) + (vlen : Int) ≤ 1048576
      · have h4 : len + vlen ≤ 1048576 := by omega
        go_enter Try.func27, Try.ntmps27
        go_wp2
        go_ret
        exact ⟨by first | (simp; done) | (simp [h4]; done), rfl⟩
      · have h4 : ¬ len + vlen ≤ 1048576 := by omega
        go_enter Try.func27, Try.ntmps27
        go_wp2
        go_ret
        exact ⟨by first | (simp; done) | (simp [h4]; done), rfl⟩
    · have h4 : ¬ len + vlen ≤ 1048576 := by omega
      go_enter Try.func27, Try.ntmps27
      go_wp2
      go_ret
      exact ⟨by first | (simp; done) | (simp [h4]; done), rfl⟩
  · have h4 : ¬ len + vlen ≤ 1048576 := by omega
    go_enter Try.func27, Try.ntmps27
    go_wp2
    go_ret
    exact ⟨by first | (simp; done) | (simp [h4]; done), rfl⟩

set_option maxRecDepth 100000 in
/-- Where the law has nothing to say: it returns true at once. -/
theorem script_early (a a2 : Option Addr) (len cap vlen vcap : Nat) (off : Int) (w : World) (hm : len ≤ maxLen) (hm2 : vlen ≤ maxLen) (b0 : -9223372036854775808 ≤ off) (b1 : off ≤ 9223372036854775807)
    (h : 1048576 < len + 2 * vlen ∨ off < 0 ∨ (len : Int) - 2 * (vlen : Int) < off) :
    Calls Try.prog 6 #[.slice a len cap, .int .i64 off, .slice a2 vlen vcap] w fun e w' => e = .returned (.bool true) ∧ Below w.heap.size w w' := by
  have P0 := bytes27_any a a2 len cap vlen vcap off w hm hm2
  unfold maxLen at hm hm2
  by_cases h1 : 1048576 < len + vlen
  · have hd : decide (len + vlen ≤ 1048576) = false := by simp; omega
    rw [hd] at P0
    go_enter Try.func6, Try.ntmps6
    go_wp2_with (go_at_call 27; refine P0.mono ?_; rintro e w' ⟨rfl, rfl⟩)
    go_ret
    exact ⟨rfl, Below.refl _ _⟩
  · have hd : decide (len + vlen ≤ 1048576) = true := by simp; omega
    rw [hd] at P0
    have k1 : ¬ (1048576 : Int) < (len : Int) := by omega
    by_cases h2 : (524288 : Int) < (vlen : Int)
    · go_enter Try.func6, Try.ntmps6
      go_wp2_with (go_at_call 27; refine P0.mono ?_; rintro e w' ⟨rfl, rfl⟩)
      go_ret
      exact ⟨rfl, Below.refl _ _⟩
    · by_cases h3 : (1048576 : Int) < (len : Int) + 2 * (vlen : Int)
      · go_enter Try.func6, Try.ntmps6
        go_wp2_with (go_at_call 27; refine P0.mono ?_; rintro e w' ⟨rfl, rfl⟩)
        go_ret
        exact ⟨rfl, Below.refl _ _⟩
      · by_cases h4 : off < 0
        · go_enter Try.func6, Try.ntmps6
          go_wp2_with (go_at_call 27; refine P0.mono ?_; rintro e w' ⟨rfl, rfl⟩)
          go_ret
          exact ⟨rfl, Below.refl _ _⟩
        · have h5 : (len : Int) - 2 * (vlen : Int) < off := by omega
          go_enter Try.func6, Try.ntmps6
          go_wp2_with (go_at_call 27; refine P0.mono ?_; rintro e w' ⟨rfl, rfl⟩)
          go_ret
          exact ⟨rfl, Below.refl _ _⟩
end Go.Proofs.Qxb6614995a
