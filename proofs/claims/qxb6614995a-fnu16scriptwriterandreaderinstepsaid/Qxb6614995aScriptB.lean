/- FnU16ScriptWriterAndReaderInStep: the walk where the fields fit. -/
import Derived.Test.Qxb6614995aScriptA
import Derived.Deep.QuietTactic
import Derived.BigQuiet
namespace Go.Proofs.Qxb6614995a
open Go.RowKit Go.WideShapes

/-- The octets behind k fields. -/
def scr (off : Nat) (v f : Nat → Int) (k i : Nat) : Int :=
  if i < off then f i else if off + 2 * k ≤ i then f i else if (i - off) % 2 = 0 then v ((i - off) / 2) / 256 else v ((i - off) / 2) % 256
theorem scr_zero (off : Nat) (v f : Nat → Int) (i : Nat) : scr off v f 0 i = f i := by
  unfold scr
  by_cases h : i < off
  · rw [if_pos h]
  · rw [if_neg h, if_pos (by omega)]
theorem scr_out (off : Nat) (v f : Nat → Int) (k i : Nat) (h : i < off ∨ off + 2 * k ≤ i) : scr off v f k i = f i := by
  unfold scr
  by_cases h1 : i < off
  · rw [if_pos h1]
  · rw [if_neg h1, if_pos (by omega)]
theorem scr_hi (off : Nat) (v f : Nat → Int) (k j : Nat) (h : j < k) : scr off v f k (off + 2 * j) = v j / 256 := by
  unfold scr
  rw [if_neg (by omega), if_neg (by omega), if_pos (by omega)]
  rw [show (off + 2 * j - off) / 2 = j by omega]
theorem scr_lo (off : Nat) (v f : Nat → Int) (k j : Nat) (h : j < k) : scr off v f k (off + 2 * j + 1) = v j % 256 := by
  unfold scr
  rw [if_neg (by omega), if_neg (by omega), if_neg (by omega)]
  rw [show (off + 2 * j + 1 - off) / 2 = j by omega]
theorem scr_step (off : Nat) (v f : Nat → Int) (k i : Nat) :
    (if i = off + 2 * k then v k / 256 else if i = off + 2 * k + 1 then v k % 256 else scr off v f k i) = scr off v f (k + 1) i := by
  by_cases h1 : i = off + 2 * k
  · subst h1; rw [if_pos rfl, scr_hi _ _ _ _ _ (by omega)]
  · by_cases h2 : i = off + 2 * k + 1
    · subst h2; rw [if_neg (by omega), if_pos rfl, scr_lo _ _ _ _ _ (by omega)]
    · rw [if_neg h1, if_neg h2]
      unfold scr
      by_cases h3 : i < off
      · rw [if_pos h3, if_pos h3]
      · rw [if_neg h3, if_neg h3]
        by_cases h4 : off + 2 * k ≤ i
        · rw [if_pos h4, if_pos (by omega)]
        · rw [if_neg h4, if_neg (show ¬ off + 2 * (k + 1) ≤ i by omega)]

theorem or16 (v : Int) (h0 : 0 ≤ v) (h1 : v ≤ 65535) : (bits BinOp.or IntKind.u16 (v / 256 * 256) (v % 256) != v) = false := by
  have e : bits BinOp.or IntKind.u16 (v / 256 * 256) (v % 256) = v / 256 * 256 + v % 256 :=
    bits_join .u16 16 (by decide) (fun n h0 h1 => by simp [IntKind.wrap, IntKind.bits, IntKind.signed]; omega) 8 _ _ (by omega) (by omega) (by omega) (by omega) (by omega) (by omega)
  rw [e, show v / 256 * 256 + v % 256 = v by omega]
  simp

theorem clone_f (x : Addr) (len cap : Nat) (f : Nat → Int) (w : World) (hm : len ≤ 1048576)
    (hc : ∀ i, i < len → w.cell? (x.add i) = some (.int .u8 (f i))) :
    Calls Try.prog 22 #[.slice (some x) len cap] w fun e w' => e = .returned (.slice (some ⟨w.heap.size, 0, none⟩) len len) ∧
      w'.rowIs w.heap.size 5 len (fun i => .int .u8 (f i)) ∧ Below w.heap.size w w' ∧ w'.heap.size = w.heap.size + 1 := by
  have hg : ∀ i, i < len → ((List.range len).map f).getD i 0 = f i := fun i hi => by simp [List.getD, hi]
  refine (clone_any x len cap ((List.range len).map f) w (by simp) hm (fun i hi => by
    have hi' : i < len := by simpa using hi
    rw [hg i hi']; exact hc i hi')).mono ?_
  rintro e w' ⟨he, hr, hb, hs⟩
  exact ⟨he, hr.congr (fun i hi => by rw [hg i hi]), hb, hs⟩

set_option maxHeartbeats 1600000 in
set_option maxRecDepth 100000 in
theorem script_core (x : Addr) (len cap : Nat) (off : Nat) (a2 : Option Addr) (vlen vcap : Nat) (f v : Nat → Int) (w : World)
    (hm : len + 2 * vlen ≤ 1048576) (ho : off + 2 * vlen ≤ len)
    (hv : ∀ i, 0 ≤ v i ∧ v i ≤ 65535)
    (hc : ∀ i, i < len → w.cell? (x.add i) = some (.int .u8 (f i)))
    (hx : 0 < len → ∃ b o, x = ⟨b, o, none⟩ ∧ b < w.heap.size)
    (hcv : 0 < vlen → ∃ b o, a2 = some ⟨b, o, none⟩ ∧ b < w.heap.size ∧ ∀ i, i < vlen → w.cell? ⟨b, o + i, none⟩ = some (.int .u16 (v i))) :
    Calls Try.prog 6 #[.slice (some x) len cap, .int .i64 (off : Int), .slice a2 vlen vcap] w fun e w' => e = .returned (.bool true) ∧ Below w.heap.size w w' := by
  have P0 : Calls Try.prog 27 #[.slice (some x) len cap, .int .i64 (off : Int), .slice a2 vlen vcap] w fun e w' => e = .returned (.bool true) ∧ w = w' := by
    have := bytes27_any (some x) a2 len cap vlen vcap off w (by unfold maxLen; omega) (by unfold maxLen; omega)
    rwa [show decide (len + vlen ≤ 1048576) = true by simp; omega] at this
  have P1 := clone_f x len cap f w (by omega) hc
  have k1 : ¬ (1048576 : Int) < (len : Int) := by omega
  have k2 : ¬ (524288 : Int) < (vlen : Int) := by omega
  have k3 : ¬ (1048576 : Int) < (len : Int) + 2 * (vlen : Int) := by omega
  have k4 : ¬ (off : Int) < 0 := by omega
  have k5 : ¬ (len : Int) - 2 * (vlen : Int) < (off : Int) := by omega
  go_enter Try.func6, Try.ntmps6
  go_wp2_with fail
  refine P0.mono ?_
  rintro e w' ⟨rfl, rfl⟩
  go_wp2_with fail
  refine P1.mono ?_
  rintro e w1 ⟨rfl, r1, b1, s1⟩
  go_wp2_with fail
  refine (newW_any _ _ _ _).mono ?_
  rintro e w2 ⟨rfl, q2, t2, s2⟩
  have r2 := t2.row r1 (fun h => h)
  rw [s1] at q2 s2
  rw [s1]
  go_wp2_with fail
  refine (newR_any _ _ _ _).mono ?_
  rintro e w3 ⟨rfl, p3, t3, s3⟩
  have r3 := t3.row r2 (fun h => h)
  have q3 := t3.row q2 (fun h => h)
  rw [s2] at p3 s3
  rw [s2]
  have bel : Below w.heap.size w w3 := (b1.trans (t2.below (by omega) (fun k h => h.elim))).trans (t3.below (by omega) (fun k h => h.elim))
  clear P0 P1 r1 r2 q2 t2 t3 b1
  go_wp2
  go_loopw [10] (fun i wr => ∃ k : Nat, k ≤ vlen ∧ i = .int .i64 k ∧ wr.rowIs w.heap.size 5 len (fun i => .int .u8 (scr off v f k i)) ∧
      wr.rowIs (w.heap.size + 1) 87 2 (wcell w.heap.size len ((off + 2 * k : Nat) : Int)) ∧ wr.rowIs (w.heap.size + 1 + 1) 88 2 (wcell w.heap.size len ((off + 2 * k : Nat) : Int)) ∧ Below w.heap.size w wr ∧ w.heap.size + 3 ≤ wr.heap.size)
    (fun i _ => vlen - (intOf i).toNat)
  case atStart => exact ⟨0, Nat.zero_le _, rfl, r3.congr (fun i _ => by rw [scr_zero]), q3, p3, bel, by omega⟩
  case round =>
    clear r3 q3 p3 bel
    obtain ⟨k, hk, rfl, r3, q3, p3, bel, hsz⟩ := hrel
    by_cases hlt : k < vlen
    · obtain ⟨b2, o2, rfl, hb2, hcv⟩ := hcv (by omega)
      have hck : wr.cell? ⟨b2, o2 + k, none⟩ = some (.int .u16 (v k)) := (bel.cell (p := ⟨b2, o2 + k, none⟩) hb2).trans (hcv k hlt)
      have hvk := hv k
      clear hcv
      go_wp2_with fail
      refine (zzu16_any _ _ _ (off + 2 * k) _ _ hvk.1 hvk.2 _ (by omega) (by omega) (by omega) r3 q3).mono ?_
      rintro e wa ⟨rfl, ra, qa, ta⟩
      have pa := ta.row p3 (by omega)
      have ba := bel.trans (ta.below (B := w.heap.size) (by omega) (fun k h => by omega))
      have sa := ta.size
      replace ra := ra.congr (g := fun i => .int .u8 (scr off v f (k + 1) i)) (fun i _ => by rw [scr_step])
      clear r3 q3 p3 bel ta
      go_wp2_with fail
      refine (rskip_any _ _ _ _ _ (by omega) (by omega) pa).mono ?_
      rintro e wb ⟨rfl, pb, tb⟩
      have rb := tb.row ra (by omega)
      have qb := tb.row qa (by omega)
      have bb := ba.trans (tb.below (B := w.heap.size) (by omega) (fun k h => by omega))
      have sb := tb.size
      clear ra qa pa ba tb
      go_wp2_with fail
      have qb' : wb.rowIs (w.heap.size + 1) 87 2 (wcell w.heap.size len ((off : Int) + 2 * ((k : Int) + 1))) := qb.congr (fun i _ => by unfold wcell; split <;> first | rfl | (congr 1; omega))
      have pb' : wb.rowIs (w.heap.size + 1 + 1) 88 2 (wcell w.heap.size len ((off : Int) + 2 * ((k : Int) + 1))) := pb.congr (fun i _ => by unfold wcell; split <;> first | rfl | (congr 1; omega))
      clear qb pb
      refine (woff_any _ _ _ _ _ qb').mono ?_
      rintro e w' ⟨rfl, rfl⟩
      go_wp2_with fail
      refine (roff_any _ _ _ _ _ pb').mono ?_
      rintro e w' ⟨rfl, rfl⟩
      go_wp2
      go_roundw
      case rel => exact ⟨k + 1, by omega, by go_num, rb, qb'.congr (fun i _ => by unfold wcell; split <;> first | rfl | (congr 1; omega)), pb'.congr (fun i _ => by unfold wcell; split <;> first | rfl | (congr 1; omega)), bb, by omega⟩
      case measure => simp [intOf]; omega
    · have hkv : k = vlen := by omega
      subst hkv
      go_wp2_with fail
      refine (wb_any _ _ _ _ _ q3).mono ?_
      rintro e w' ⟨rfl, rfl⟩
      go_wp2_with fail
      refine (rb_any _ _ _ _ _ p3).mono ?_
      rintro e w' ⟨rfl, rfl⟩
      clear q3 p3 hsz
      go_wp2
      go_loopw [13] (fun i wr => ∃ j : Nat, j ≤ k ∧ i = .int .i64 j ∧ wr.rowIs w.heap.size 5 len (fun i => .int .u8 (scr off v f k i)) ∧ Below w.heap.size w wr)
        (fun i _ => k - (intOf i).toNat)
      case atStart => exact ⟨0, Nat.zero_le _, rfl, r3, bel⟩
      case round =>
        clear r3 bel
        obtain ⟨j, hj, rfl, r3, bel⟩ := hrel
        by_cases hjk : j < k
        · obtain ⟨b2, o2, rfl, hb2, hcv⟩ := hcv (by omega)
          have hck : wr.cell? ⟨b2, o2 + j, none⟩ = some (.int .u16 (v j)) := (bel.cell (p := ⟨b2, o2 + j, none⟩) hb2).trans (hcv j hjk)
          have c0 : wr.cell? ⟨w.heap.size, off + 2 * j, none⟩ = some (.int .u8 (v j / 256)) := (r3.cell (by omega)).trans (by rw [scr_hi _ _ _ _ _ hjk])
          have c1 : wr.cell? ⟨w.heap.size, off + 2 * j + 1, none⟩ = some (.int .u8 (v j % 256)) := (r3.cell (by omega)).trans (by rw [scr_lo _ _ _ _ _ hjk])
          have hvj := hv j
          have ho16 := or16 (v j) hvj.1 hvj.2
          have i0 : (0 : Int) ≤ (off : Int) + 2 * (j : Int) := by omega
          have i1 : (off : Int) + 2 * (j : Int) < (len : Int) := by omega
          have i2 : (0 : Int) ≤ (off : Int) + 2 * (j : Int) + 1 := by omega
          have i3 : (off : Int) + 2 * (j : Int) + 1 < (len : Int) := by omega
          clear hcv hc
          go_wp2
          go_quiet (fail)
          go_wp2
          go_roundw
          case rel => exact ⟨j + 1, by omega, by go_num, r3, bel.trans ⟨rfl, rfl, rfl, Nat.le_refl _, fun _ _ => rfl⟩⟩
          case measure => simp [intOf]; omega
        · go_wp2
          go_loopw [15] (fun i wr => ∃ j : Nat, j ≤ off ∧ i = .int .i64 j ∧ wr.rowIs w.heap.size 5 len (fun i => .int .u8 (scr off v f k i)) ∧ Below w.heap.size w wr)
            (fun i _ => off - (intOf i).toNat)
          case atStart => exact ⟨0, Nat.zero_le _, rfl, r3, bel⟩
          case round =>
            clear r3 bel hjk hj
            obtain ⟨m, hm1, rfl, r3, bel⟩ := hrel
            by_cases hmk : m < off
            · obtain ⟨b1, o1, rfl, hb1⟩ := hx (by omega)
              have ca : wr.cell? ⟨b1, o1 + m, none⟩ = some (.int .u8 (f m)) := (bel.cell (p := ⟨b1, o1 + m, none⟩) hb1).trans (by rw [← add_plain]; exact hc m (by omega))
              have cb : wr.cell? ⟨w.heap.size, m, none⟩ = some (.int .u8 (f m)) := (r3.cell (by omega)).trans (by rw [scr_out _ _ _ _ _ (by omega)])
              have i1 : (m : Int) < (len : Int) := by omega
              clear hc
              go_wp2
              go_quiet (fail)
              go_wp2
              go_roundw
              case rel => exact ⟨m + 1, by omega, by go_num, r3, bel.trans ⟨rfl, rfl, rfl, Nat.le_refl _, fun _ _ => rfl⟩⟩
              case measure => simp [intOf]; omega
            · go_wp2
              go_loopw [16] (fun i wr => ∃ j : Nat, off + 2 * k ≤ j ∧ j ≤ len ∧ i = .int .i64 j ∧ wr.rowIs w.heap.size 5 len (fun i => .int .u8 (scr off v f k i)) ∧ Below w.heap.size w wr)
                (fun i _ => len - (intOf i).toNat)
              case atStart => exact ⟨off + 2 * k, Nat.le_refl _, by omega, by go_num, r3, bel⟩
              case round =>
                clear r3 bel hmk hm1
                obtain ⟨p, hp1, hp2, rfl, r3, bel⟩ := hrel
                by_cases hpk : p < len
                · obtain ⟨b1, o1, rfl, hb1⟩ := hx (by omega)
                  have ca : wr.cell? ⟨b1, o1 + p, none⟩ = some (.int .u8 (f p)) := (bel.cell (p := ⟨b1, o1 + p, none⟩) hb1).trans (by rw [← add_plain]; exact hc p (by omega))
                  have cb : wr.cell? ⟨w.heap.size, p, none⟩ = some (.int .u8 (f p)) := (r3.cell (by omega)).trans (by rw [scr_out _ _ _ _ _ (by omega)])
                  have i1 : (p : Int) < (len : Int) := by omega
                  clear hc
                  go_wp2
                  go_quiet (fail)
                  go_wp2
                  go_roundw
                  case rel => exact ⟨p + 1, by omega, by omega, by go_num, r3, bel.trans ⟨rfl, rfl, rfl, Nat.le_refl _, fun _ _ => rfl⟩⟩
                  case measure => simp [intOf]; omega
                · go_wp2
                  go_ret
                  exact ⟨rfl, bel⟩

set_option maxHeartbeats 1600000 in
set_option maxRecDepth 100000 in
theorem script_nil (a2 : Option Addr) (vcap : Nat) (w : World) :
    Calls Try.prog 6 #[.slice none 0 0, .int .i64 0, .slice a2 0 vcap] w fun e w' => e = .returned (.bool true) ∧ Below w.heap.size w w' := by
  have P0 : Calls Try.prog 27 #[.slice none 0 0, .int .i64 0, .slice a2 0 vcap] w fun e w' => e = .returned (.bool true) ∧ w = w' := bytes27_any none a2 0 0 0 vcap 0 w (by unfold maxLen; omega) (by unfold maxLen; omega)
  go_enter Try.func6, Try.ntmps6
  go_wp2_with fail
  refine P0.mono ?_
  rintro e w' ⟨rfl, rfl⟩
  clear P0
  go_wp2_with fail
  refine (clone_nil _).mono ?_
  rintro e w' ⟨rfl, rfl⟩
  go_wp2
  go_loop [10] (fun i => i = .int .i64 0) (fun _ => 0)
  case atStart => rfl
  case round =>
    obtain rfl := hrel
    go_wp2
    go_loop [13] (fun i => i = .int .i64 0) (fun _ => 0)
    case atStart => rfl
    case round =>
      obtain rfl := hrel
      go_wp2
      go_loop [15] (fun i => i = .int .i64 0) (fun _ => 0)
      case atStart => rfl
      case round =>
        obtain rfl := hrel
        go_wp2
        go_loop [16] (fun i => i = .int .i64 0) (fun _ => 0)
        case atStart => rfl
        case round =>
          obtain rfl := hrel
          go_wp2
          go_ret
          exact ⟨rfl, ((Below.refl _ _).alloc (Nat.le_refl _) _).alloc (by simp) _⟩

end Go.Proofs.Qxb6614995a
