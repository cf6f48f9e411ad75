/- FnHoldCountsDistinctIds: the walk. -/
import Derived.Test.Qxb6614995aHoldA
import Derived.Deep.QuietTactic
import Derived.BigQuiet
namespace Go.Proofs.Qxb6614995a
open Go.RowKit Go.Maps

/-- Is j among the first k IDs? -/
def Sk (v : Nat → Int) : Nat → Int → Bool
  | 0, _ => false
  | k + 1, j => j == v k || Sk v k j
/-- How many different ones are among the first k? -/
def Ck (v : Nat → Int) : Nat → Nat
  | 0 => 0
  | k + 1 => bump (Sk v k (v k)) (Ck v k)
theorem Ck_le (v : Nat → Int) : ∀ k, Ck v k ≤ k
  | 0 => Nat.le_refl _
  | k + 1 => by have := Ck_le v k; unfold Ck bump; split <;> omega
theorem Sk_mem (v : Nat → Int) : ∀ k i, i < k → Sk v k (v i) = true
  | 0, i, h => absurd h (Nat.not_lt_zero i)
  | k + 1, i, h => by
    unfold Sk
    by_cases e : i = k
    · subst e; simp
    · rw [Sk_mem v k i (by omega)]; simp
def heldK (b : Bool) (v : Nat → Int) (k : Nat) : Int → Bool := fun j => b && Sk v k j
def cntK (b : Bool) (v : Nat → Int) (k : Nat) : Nat := if b then Ck v k else 0
theorem heldK_zero (b : Bool) (v : Nat → Int) : heldK b v 0 = fun _ => false := by funext j; cases b <;> rfl
theorem cntK_zero (b : Bool) (v : Nat → Int) : cntK b v 0 = 0 := by cases b <;> rfl
theorem held1_step (b : Bool) (v : Nat → Int) (k : Nat) : held1 b (heldK b v k) (v k) = heldK b v (k + 1) := by
  funext j; cases b <;> simp [held1, heldK, Sk]
theorem cnt1_step (b : Bool) (v : Nat → Int) (k : Nat) : cnt1 b (heldK b v k) (cntK b v k) (v k) = cntK b v (k + 1) := by
  cases b <;> simp [cnt1, heldK, cntK, Ck]

theorem heldK_mem (b : Bool) (v : Nat → Int) (k i : Nat) (h : i < k) : heldK b v k (v i) = b := by
  unfold heldK; rw [Sk_mem v k i h]; simp
theorem heldK_not (b : Bool) (v : Nat → Int) (k : Nat) (x : Int) (h : Sk v k x = false) : heldK b v k x = false := by
  unfold heldK; rw [h]; simp

theorem Sk_set (v : Nat → Int) (k : Nat) (h : 0 ≤ v k) (i : Nat) : (if i = (v k).toNat then Value.bool true else Value.bool (Sk v k (i : Int))) = Value.bool (Sk v (k + 1) (i : Int)) := by
  by_cases e : i = (v k).toNat
  · rw [if_pos e]
    have : (i : Int) = v k := by omega
    rw [this]; simp [Sk]
  · rw [if_neg e]
    have : ¬ (i : Int) = v k := by omega
    simp [Sk, this]
theorem Sk_same (v : Nat → Int) (k : Nat) (h : Sk v k (v k) = true) (j : Int) : Sk v (k + 1) j = Sk v k j := by
  by_cases e : j = v k
  · subst e; simp [Sk, h]
  · simp [Sk, e]

theorem bytes7_any (a : Option Addr) (len cap : Nat) (x : Int) (y : Bool) (w : World) (hm : len ≤ maxLen) :
    Calls Try.prog 7 #[.int .i64 x, .bool y, .slice a len cap] w fun e w' => e = .returned (.bool (decide (len ≤ 1048576))) ∧ w = w' := by
  unfold maxLen at hm
  by_cases h : len ≤ 1048576
  · go_enter Try.func7, Try.ntmps7
    go_wp2
    go_ret
    exact ⟨by simp [h], rfl⟩
  · go_enter Try.func7, Try.ntmps7
    go_wp2
    go_ret
    exact ⟨by simp [h], rfl⟩

theorem hold_early (a : Option Addr) (len cap : Nat) (x : Int) (y : Bool) (w : World) (hm : len ≤ maxLen) (h : 65536 < len) :
    Calls Try.prog 3 #[.int .i64 x, .bool y, .slice a len cap] w fun e w' => e = .returned (.bool true) ∧ Below w.heap.size w w' := by
  have P0 := bytes7_any a len cap x y w hm
  unfold maxLen at hm
  by_cases h1 : 1048576 < len
  · have hd : decide (len ≤ 1048576) = false := by simp; omega
    rw [hd] at P0
    go_enter Try.func3, Try.ntmps3
    go_wp2_with (go_at_call 7; refine P0.mono ?_; rintro e w' ⟨rfl, rfl⟩)
    go_ret
    exact ⟨rfl, Below.refl _ _⟩
  · have hd : decide (len ≤ 1048576) = true := by simp; omega
    rw [hd] at P0
    go_enter Try.func3, Try.ntmps3
    go_wp2_with (go_at_call 7; refine P0.mono ?_; rintro e w' ⟨rfl, rfl⟩)
    go_ret
    exact ⟨rfl, Below.refl _ _⟩

theorem info4 : (Try.prog.info? 4).map (fun i => (i.zero, i.size, i.bytes)) = some (some (.bool false), 1, 1) := by kernel_rfl

/-- The constructor, both kinds. -/
theorem new_true (lim : Int) (w : World) : Calls Try.prog 8 #[.int .i64 lim] w fun e w' => e = .returned (.pointer (some ⟨w.heap.size + 2, 0, none⟩)) ∧
      ∃ l, w'.rowIs (w.heap.size + 2) 71 6 (ccell l true w.heap.size (w.heap.size + 1)) ∧ IdsIs w' w.heap.size ∧ HeldIs w' (w.heap.size + 1) 0 (fun _ => false) 0 ∧ Below w.heap.size w w' := by
  refine (newHeld_any lim w).mono ?_
  rintro e w' ⟨he, ⟨l, h1⟩, h2⟩
  exact ⟨he, l, h1, h2⟩
theorem new_false (lim : Int) (w : World) : Calls Try.prog 9 #[.int .i64 lim] w fun e w' => e = .returned (.pointer (some ⟨w.heap.size + 2, 0, none⟩)) ∧
      ∃ l, w'.rowIs (w.heap.size + 2) 71 6 (ccell l false w.heap.size (w.heap.size + 1)) ∧ IdsIs w' w.heap.size ∧ HeldIs w' (w.heap.size + 1) 0 (fun _ => false) 0 ∧ Below w.heap.size w w' := by
  refine (new_any lim w).mono ?_
  rintro e w' ⟨he, ⟨l, h1⟩, h2⟩
  exact ⟨he, l, h1, h2⟩

set_option maxHeartbeats 3200000 in
set_option maxRecDepth 100000 in
theorem hold_core_true (lim : Int) (a : Option Addr) (len cap : Nat) (v : Nat → Int) (w : World) (hm : len ≤ 65536)
    (hv : ∀ i, 0 ≤ v i ∧ v i ≤ 65535)
    (hcv : 0 < len → ∃ b o, a = some ⟨b, o, none⟩ ∧ b < w.heap.size ∧ ∀ i, i < len → w.cell? ⟨b, o + i, none⟩ = some (.int .u16 (v i))) :
    Calls Try.prog 3 #[.int .i64 lim, .bool true, .slice a len cap] w fun e w' => e = .returned (.bool true) ∧ Below w.heap.size w w' := by
  have P0 : Calls Try.prog 7 #[.int .i64 lim, .bool true, .slice a len cap] w fun e w' => e = .returned (.bool true) ∧ w = w' := by
    have := bytes7_any a len cap lim true w (by unfold maxLen; omega)
    rwa [show decide (len ≤ 1048576) = true by simp; omega] at this
  have P1 := new_true lim w
  have k1 : ¬ (65536 : Int) < (len : Int) := by omega
  have hmk : ∀ w : World, (Instr.makeSlice 28 (.int .i64 65536) (.int .i64 65536)).run Try.prog w = .ok (.slice (some ⟨w.heap.size, 0, none⟩) 65536 65536) (w.alloc (.cells (madeCells #[.bool false] 65536) 4)) :=
    run_make_row' (P := Try.prog) 28 4 (.bool false) 1 Try.underlying28 info4 rfl .i64 .i64 65536 (by omega) (by omega)
  go_enter Try.func3, Try.ntmps3
  go_wp2_with (first | (go_at_call 7; refine P0.mono ?_; rintro e w' ⟨rfl, rfl⟩) | (go_at_call 8; refine P1.mono ?_; rintro e w1 ⟨rfl, l, r1, i1, h1, bel⟩))
  clear P0 P1
  have sz1 := r1.lt
  go_loopw [8] (fun i wr => ∃ k : Nat, k ≤ len ∧ i = .int .i64 k ∧ wr.rowIs (w.heap.size + 2) 71 6 (ccell l true w.heap.size (w.heap.size + 1)) ∧ IdsIs wr w.heap.size ∧ HeldIs wr (w.heap.size + 1) k (heldK true v k) (cntK true v k) ∧ Below w.heap.size w wr)
    (fun i _ => len - (intOf i).toNat)
  case atStart => exact ⟨0, Nat.zero_le _, rfl, r1, i1, by rw [heldK_zero, cntK_zero]; exact h1, bel⟩
  case round =>
    clear r1 i1 h1 bel sz1
    obtain ⟨k, hk, rfl, r1, i1, h1, bel⟩ := hrel
    have sz1 := r1.lt
    by_cases hlt : k < len
    · obtain ⟨ba, oa, rfl, hba, hcv⟩ := hcv (by omega)
      have hck : wr.cell? ⟨ba, oa + k, none⟩ = some (.int .u16 (v k)) := (bel.cell (p := ⟨ba, oa + k, none⟩) hba).trans (hcv k hlt)
      have hvk := hv k
      clear hcv
      go_wp2_with fail
      refine (zzhold_any _ _ _ _ _ _ _ _ _ _ hvk.1 hvk.2 (by unfold maxLen; omega) (by omega) (by simp) r1 h1).mono ?_
      rintro e wa ⟨rfl, ra, ha, ta⟩
      have ia := ta.ids i1 (by omega)
      have ba := bel.trans (ta.below (B := w.heap.size) (by omega) (fun k h => by omega))
      rw [held1_step, cnt1_step] at ha
      clear r1 i1 h1 bel ta
      go_wp2
      go_roundw
      case rel => exact ⟨k + 1, by omega, by go_num, ra, ia, ha, ba⟩
      case measure => simp [intOf]; omega
    · have hkv : k = len := by omega
      subst hkv
      obtain ⟨sn, hsn⟩ : ∃ sn, wr.heap.size = sn := ⟨_, rfl⟩
      go_wp2
      have rs := World.rowIs_made wr (.bool false) 65536 4
      rw [hsn] at rs
      have ra := r1.alloc (.cells (madeCells #[.bool false] 65536) 4)
      have ia : IdsIs (wr.alloc (.cells (madeCells #[.bool false] 65536) 4)) w.heap.size := World.ownsMap.alloc i1 _
      have ha : HeldIs (wr.alloc (.cells (madeCells #[.bool false] 65536) 4)) (w.heap.size + 1) k (heldK true v k) (cntK true v k) := by
        obtain ⟨D, ho, r⟩ := h1
        exact ⟨D, ho.alloc _, r⟩
      have bela := bel.alloc (by omega) (.cells (madeCells #[.bool false] 65536) 4)
      have hsn2 : w.heap.size + 2 < sn := by omega
      clear r1 i1 h1 bel hmk sz1 hsn
      go_loopw [10, 11] (fun d i wr => ∃ j : Nat, j ≤ k ∧ i = .int .i64 j ∧ d = .int .i64 (Ck v j) ∧ wr.rowIs sn 4 65536 (fun x => .bool (Sk v j (x : Int))) ∧ wr.rowIs (w.heap.size + 2) 71 6 (ccell l true w.heap.size (w.heap.size + 1)) ∧ IdsIs wr w.heap.size ∧ HeldIs wr (w.heap.size + 1) k (heldK true v k) (cntK true v k) ∧ Below w.heap.size w wr)
        (fun _ i _ => k - (intOf i).toNat)
      case atStart => exact ⟨0, Nat.zero_le _, rfl, rfl, rs, ra, ia, ha, bela⟩
      case round =>
        clear rs ra ia ha bela
        obtain ⟨j, hj, rfl, rfl, rs, r1, i1, h1, bel⟩ := hrel
        have sz1 := rs.lt
        by_cases hjk : j < k
        · obtain ⟨ba, oa, rfl, hba, hcv⟩ := hcv (by omega)
          have hck : wr.cell? ⟨ba, oa + j, none⟩ = some (.int .u16 (v j)) := (bel.cell (p := ⟨ba, oa + j, none⟩) hba).trans (hcv j hjk)
          have hvj := hv j
          have hcs : wr.cell? ⟨sn, (v j).toNat, none⟩ = some (.bool (Sk v j (v j))) := (rs.cell (i := (v j).toNat) (by omega)).trans (by rw [Int.toNat_of_nonneg hvj.1])
          have hfs := rs.frozen (v j).toNat
          have b1 : 0 ≤ v j := hvj.1
          have b2 : v j < 65536 := by omega
          have hC := Ck_le v j
          clear hcv
          by_cases hS : Sk v j (v j) = true
          · go_wp2
            go_roundw
            case rel => exact ⟨j + 1, by omega, by go_num, by simp [Ck, bump, hS], rs.congr (fun x _ => by rw [Sk_same v j hS]), r1, i1, h1, bel⟩
            case measure => simp [intOf]; omega
          · have hS' : Sk v j (v j) = false := by simpa using hS
            go_wp2
            go_roundw
            case rel =>
              have t1 : Turned (fun k => k = sn) wr (wr.setCell ⟨sn, (v j).toNat, none⟩ (.bool true)) := (Turned.refl _ _).setCell (S := fun k => k = sn) (p := ⟨sn, (v j).toNat, none⟩) rfl _
              exact ⟨j + 1, by omega, by go_num, by simp [Ck, bump, hS'], (rs.set _ _).congr (fun x _ => Sk_set v j hvj.1 x), t1.row r1 (by omega), t1.ids i1 (by omega), t1.held h1 (by omega), bel.setCell (p := ⟨sn, (v j).toNat, none⟩) (by show w.heap.size ≤ sn; omega) _⟩
            case measure => simp [intOf]; omega
        · have hkv : j = k := by omega
          subst hkv
          have hC := Ck_le v j
          have h2 : HeldIs wr (w.heap.size + 1) j (heldK true v j) (Ck v j) := h1
          clear h1
          go_wp2_with fail
          refine (heldLen_any _ _ _ _ _ _ _ _ _ r1 h2).mono ?_
          rintro e w' ⟨rfl, rfl⟩
          go_wp2
          go_loopw [13] (fun i wr => ∃ m : Nat, m ≤ j ∧ i = .int .i64 m ∧ wr.rowIs sn 4 65536 (fun x => .bool (Sk v j (x : Int))) ∧ wr.rowIs (w.heap.size + 2) 71 6 (ccell l true w.heap.size (w.heap.size + 1)) ∧ IdsIs wr w.heap.size ∧ HeldIs wr (w.heap.size + 1) j (heldK true v j) (Ck v j) ∧ Below w.heap.size w wr)
            (fun i _ => j - (intOf i).toNat)
          case atStart => exact ⟨0, Nat.zero_le _, rfl, rs, r1, i1, h2, bel⟩
          case round =>
            clear rs r1 i1 h2 bel sz1 hjk
            obtain ⟨m, hm1, rfl, rs, r1, i1, h2, bel⟩ := hrel
            have sz1 := rs.lt
            by_cases hmj : m < j
            · obtain ⟨ba, oa, rfl, hba, hcv⟩ := hcv (by omega)
              have hck : wr.cell? ⟨ba, oa + m, none⟩ = some (.int .u16 (v m)) := (bel.cell (p := ⟨ba, oa + m, none⟩) hba).trans (hcv m hmj)
              have hvm := hv m
              have PH := held_any _ _ _ _ _ _ _ _ _ wr hvm.1 hvm.2 r1 h2
              rw [heldK_mem true v j m hmj] at PH
              clear hcv
              go_wp2_with fail
              refine PH.mono ?_
              rintro e w' ⟨rfl, rfl⟩
              clear PH
              go_wp2_with fail
              refine (owner_any _ _ _ _ _ _ _ hvm.1 hvm.2 (by omega) r1 i1).mono ?_
              rintro e wa ⟨rfl, ra, ta⟩
              have rsa := ta.row rs (by omega)
              have ia := ta.ids i1 (by omega)
              have h2a := ta.held h2 (by omega)
              have bela := bel.trans (ta.below (B := w.heap.size) (by omega) (fun k h => by omega))
              clear rs r1 i1 h2 bel ta
              go_wp2
              go_roundw
              case rel => exact ⟨m + 1, by omega, by go_num, rsa, ra, ia, h2a, bela⟩
              case measure => simp [intOf]; omega
            · clear hcv
              go_wp2
              go_loopw [14] (fun i wr => ∃ m : Nat, m ≤ 65536 ∧ i = .int .i64 m ∧ wr.rowIs sn 4 65536 (fun x => .bool (Sk v j (x : Int))) ∧ wr.rowIs (w.heap.size + 2) 71 6 (ccell l true w.heap.size (w.heap.size + 1)) ∧ HeldIs wr (w.heap.size + 1) j (heldK true v j) (Ck v j) ∧ Below w.heap.size w wr)
                (fun i _ => 65536 - (intOf i).toNat)
              case atStart => exact ⟨0, Nat.zero_le _, rfl, rs, r1, h2, bel⟩
              case round =>
                clear rs r1 i1 h2 bel sz1 hmj hm1
                obtain ⟨p, hp, rfl, rs, r1, h2, bel⟩ := hrel
                by_cases hpk : p < 65536
                · have hcs : wr.cell? ⟨sn, p, none⟩ = some (.bool (Sk v j (p : Int))) := rs.cell hpk
                  have hp2 : (p : Int) < 65536 := by omega
                  by_cases hS : Sk v j (p : Int) = true
                  · go_wp2
                    go_roundw
                    case rel => exact ⟨p + 1, by omega, by go_num, rs, r1, h2, bel⟩
                    case measure => simp [intOf]; omega
                  · have hS' : Sk v j (p : Int) = false := by simpa using hS
                    have PH := held_any _ _ _ _ _ _ _ (p : Int) _ wr (by omega) (by omega) r1 h2
                    rw [heldK_not true v j _ hS'] at PH
                    clear hS
                    go_wp2_with fail
                    refine PH.mono ?_
                    rintro e w' ⟨rfl, rfl⟩
                    go_wp2
                    go_ret
                    exact ⟨rfl, bel⟩
                · have hp2 : ¬ (p : Int) < 65536 := by omega
                  clear hpk hp rs
                  go_wp2
                  go_ret
                  exact ⟨rfl, bel⟩

set_option maxHeartbeats 3200000 in
set_option maxRecDepth 100000 in
theorem hold_core_false (lim : Int) (a : Option Addr) (len cap : Nat) (v : Nat → Int) (w : World) (hm : len ≤ 65536)
    (hv : ∀ i, 0 ≤ v i ∧ v i ≤ 65535)
    (hcv : 0 < len → ∃ b o, a = some ⟨b, o, none⟩ ∧ b < w.heap.size ∧ ∀ i, i < len → w.cell? ⟨b, o + i, none⟩ = some (.int .u16 (v i))) :
    Calls Try.prog 3 #[.int .i64 lim, .bool false, .slice a len cap] w fun e w' => e = .returned (.bool true) ∧ Below w.heap.size w w' := by
  have P0 : Calls Try.prog 7 #[.int .i64 lim, .bool false, .slice a len cap] w fun e w' => e = .returned (.bool true) ∧ w = w' := by
    have := bytes7_any a len cap lim false w (by unfold maxLen; omega)
    rwa [show decide (len ≤ 1048576) = true by simp; omega] at this
  have P1 := new_false lim w
  have k1 : ¬ (65536 : Int) < (len : Int) := by omega
  have hmk : ∀ w : World, (Instr.makeSlice 28 (.int .i64 65536) (.int .i64 65536)).run Try.prog w = .ok (.slice (some ⟨w.heap.size, 0, none⟩) 65536 65536) (w.alloc (.cells (madeCells #[.bool false] 65536) 4)) :=
    run_make_row' (P := Try.prog) 28 4 (.bool false) 1 Try.underlying28 info4 rfl .i64 .i64 65536 (by omega) (by omega)
  go_enter Try.func3, Try.ntmps3
  go_wp2_with (first | (go_at_call 7; refine P0.mono ?_; rintro e w' ⟨rfl, rfl⟩) | (go_at_call 9; refine P1.mono ?_; rintro e w1 ⟨rfl, l, r1, i1, h1, bel⟩))
  clear P0 P1
  have sz1 := r1.lt
  go_loopw [8] (fun i wr => ∃ k : Nat, k ≤ len ∧ i = .int .i64 k ∧ wr.rowIs (w.heap.size + 2) 71 6 (ccell l false w.heap.size (w.heap.size + 1)) ∧ IdsIs wr w.heap.size ∧ HeldIs wr (w.heap.size + 1) k (heldK false v k) (cntK false v k) ∧ Below w.heap.size w wr)
    (fun i _ => len - (intOf i).toNat)
  case atStart => exact ⟨0, Nat.zero_le _, rfl, r1, i1, by rw [heldK_zero, cntK_zero]; exact h1, bel⟩
  case round =>
    clear r1 i1 h1 bel sz1
    obtain ⟨k, hk, rfl, r1, i1, h1, bel⟩ := hrel
    have sz1 := r1.lt
    by_cases hlt : k < len
    · obtain ⟨ba, oa, rfl, hba, hcv⟩ := hcv (by omega)
      have hck : wr.cell? ⟨ba, oa + k, none⟩ = some (.int .u16 (v k)) := (bel.cell (p := ⟨ba, oa + k, none⟩) hba).trans (hcv k hlt)
      have hvk := hv k
      clear hcv
      go_wp2_with fail
      refine (zzhold_any _ _ _ _ _ _ _ _ _ _ hvk.1 hvk.2 (by unfold maxLen; omega) (by omega) (by simp [heldK]) r1 h1).mono ?_
      rintro e wa ⟨rfl, ra, ha, ta⟩
      have ia := ta.ids i1 (by omega)
      have ba := bel.trans (ta.below (B := w.heap.size) (by omega) (fun k h => by omega))
      rw [held1_step, cnt1_step] at ha
      clear r1 i1 h1 bel ta
      go_wp2
      go_roundw
      case rel => exact ⟨k + 1, by omega, by go_num, ra, ia, ha, ba⟩
      case measure => simp [intOf]; omega
    · have hkv : k = len := by omega
      subst hkv
      obtain ⟨sn, hsn⟩ : ∃ sn, wr.heap.size = sn := ⟨_, rfl⟩
      go_wp2
      have rs := World.rowIs_made wr (.bool false) 65536 4
      rw [hsn] at rs
      have ra := r1.alloc (.cells (madeCells #[.bool false] 65536) 4)
      have ia : IdsIs (wr.alloc (.cells (madeCells #[.bool false] 65536) 4)) w.heap.size := World.ownsMap.alloc i1 _
      have ha : HeldIs (wr.alloc (.cells (madeCells #[.bool false] 65536) 4)) (w.heap.size + 1) k (heldK false v k) (cntK false v k) := by
        obtain ⟨D, ho, r⟩ := h1
        exact ⟨D, ho.alloc _, r⟩
      have bela := bel.alloc (by omega) (.cells (madeCells #[.bool false] 65536) 4)
      have hsn2 : w.heap.size + 2 < sn := by omega
      clear r1 i1 h1 bel hmk sz1 hsn
      go_loopw [10, 11] (fun d i wr => ∃ j : Nat, j ≤ k ∧ i = .int .i64 j ∧ d = .int .i64 (Ck v j) ∧ wr.rowIs sn 4 65536 (fun x => .bool (Sk v j (x : Int))) ∧ wr.rowIs (w.heap.size + 2) 71 6 (ccell l false w.heap.size (w.heap.size + 1)) ∧ IdsIs wr w.heap.size ∧ HeldIs wr (w.heap.size + 1) k (heldK false v k) (cntK false v k) ∧ Below w.heap.size w wr)
        (fun _ i _ => k - (intOf i).toNat)
      case atStart => exact ⟨0, Nat.zero_le _, rfl, rfl, rs, ra, ia, ha, bela⟩
      case round =>
        clear rs ra ia ha bela
        obtain ⟨j, hj, rfl, rfl, rs, r1, i1, h1, bel⟩ := hrel
        have sz1 := rs.lt
        by_cases hjk : j < k
        · obtain ⟨ba, oa, rfl, hba, hcv⟩ := hcv (by omega)
          have hck : wr.cell? ⟨ba, oa + j, none⟩ = some (.int .u16 (v j)) := (bel.cell (p := ⟨ba, oa + j, none⟩) hba).trans (hcv j hjk)
          have hvj := hv j
          have hcs : wr.cell? ⟨sn, (v j).toNat, none⟩ = some (.bool (Sk v j (v j))) := (rs.cell (i := (v j).toNat) (by omega)).trans (by rw [Int.toNat_of_nonneg hvj.1])
          have hfs := rs.frozen (v j).toNat
          have b1 : 0 ≤ v j := hvj.1
          have b2 : v j < 65536 := by omega
          have hC := Ck_le v j
          clear hcv
          by_cases hS : Sk v j (v j) = true
          · go_wp2
            go_roundw
            case rel => exact ⟨j + 1, by omega, by go_num, by simp [Ck, bump, hS], rs.congr (fun x _ => by rw [Sk_same v j hS]), r1, i1, h1, bel⟩
            case measure => simp [intOf]; omega
          · have hS' : Sk v j (v j) = false := by simpa using hS
            go_wp2
            go_roundw
            case rel =>
              have t1 : Turned (fun k => k = sn) wr (wr.setCell ⟨sn, (v j).toNat, none⟩ (.bool true)) := (Turned.refl _ _).setCell (S := fun k => k = sn) (p := ⟨sn, (v j).toNat, none⟩) rfl _
              exact ⟨j + 1, by omega, by go_num, by simp [Ck, bump, hS'], (rs.set _ _).congr (fun x _ => Sk_set v j hvj.1 x), t1.row r1 (by omega), t1.ids i1 (by omega), t1.held h1 (by omega), bel.setCell (p := ⟨sn, (v j).toNat, none⟩) (by show w.heap.size ≤ sn; omega) _⟩
            case measure => simp [intOf]; omega
        · have hkv : j = k := by omega
          subst hkv
          have hC := Ck_le v j
          have h2 : HeldIs wr (w.heap.size + 1) j (heldK false v j) (0) := h1
          clear h1
          go_wp2_with fail
          refine (heldLen_any _ _ _ _ _ _ _ _ _ r1 h2).mono ?_
          rintro e w' ⟨rfl, rfl⟩
          go_wp2
          go_loopw [13] (fun i wr => ∃ m : Nat, m ≤ j ∧ i = .int .i64 m ∧ wr.rowIs sn 4 65536 (fun x => .bool (Sk v j (x : Int))) ∧ wr.rowIs (w.heap.size + 2) 71 6 (ccell l false w.heap.size (w.heap.size + 1)) ∧ IdsIs wr w.heap.size ∧ HeldIs wr (w.heap.size + 1) j (heldK false v j) (0) ∧ Below w.heap.size w wr)
            (fun i _ => j - (intOf i).toNat)
          case atStart => exact ⟨0, Nat.zero_le _, rfl, rs, r1, i1, h2, bel⟩
          case round =>
            clear rs r1 i1 h2 bel sz1 hjk
            obtain ⟨m, hm1, rfl, rs, r1, i1, h2, bel⟩ := hrel
            have sz1 := rs.lt
            by_cases hmj : m < j
            · obtain ⟨ba, oa, rfl, hba, hcv⟩ := hcv (by omega)
              have hck : wr.cell? ⟨ba, oa + m, none⟩ = some (.int .u16 (v m)) := (bel.cell (p := ⟨ba, oa + m, none⟩) hba).trans (hcv m hmj)
              have hvm := hv m
              have PH := held_any _ _ _ _ _ _ _ _ _ wr hvm.1 hvm.2 r1 h2
              rw [heldK_mem false v j m hmj] at PH
              clear hcv
              go_wp2_with fail
              refine PH.mono ?_
              rintro e w' ⟨rfl, rfl⟩
              clear PH
              go_wp2_with fail
              refine (owner_any _ _ _ _ _ _ _ hvm.1 hvm.2 (by omega) r1 i1).mono ?_
              rintro e wa ⟨rfl, ra, ta⟩
              have rsa := ta.row rs (by omega)
              have ia := ta.ids i1 (by omega)
              have h2a := ta.held h2 (by omega)
              have bela := bel.trans (ta.below (B := w.heap.size) (by omega) (fun k h => by omega))
              clear rs r1 i1 h2 bel ta
              go_wp2
              go_roundw
              case rel => exact ⟨m + 1, by omega, by go_num, rsa, ra, ia, h2a, bela⟩
              case measure => simp [intOf]; omega
            · clear hcv
              go_wp2
              go_loopw [14] (fun i wr => ∃ m : Nat, m ≤ 65536 ∧ i = .int .i64 m ∧ wr.rowIs sn 4 65536 (fun x => .bool (Sk v j (x : Int))) ∧ wr.rowIs (w.heap.size + 2) 71 6 (ccell l false w.heap.size (w.heap.size + 1)) ∧ HeldIs wr (w.heap.size + 1) j (heldK false v j) (0) ∧ Below w.heap.size w wr)
                (fun i _ => 65536 - (intOf i).toNat)
              case atStart => exact ⟨0, Nat.zero_le _, rfl, rs, r1, h2, bel⟩
              case round =>
                clear rs r1 i1 h2 bel sz1 hmj hm1
                obtain ⟨p, hp, rfl, rs, r1, h2, bel⟩ := hrel
                by_cases hpk : p < 65536
                · have hcs : wr.cell? ⟨sn, p, none⟩ = some (.bool (Sk v j (p : Int))) := rs.cell hpk
                  have hp2 : (p : Int) < 65536 := by omega
                  by_cases hS : Sk v j (p : Int) = true
                  · go_wp2
                    go_roundw
                    case rel => exact ⟨p + 1, by omega, by go_num, rs, r1, h2, bel⟩
                    case measure => simp [intOf]; omega
                  · have hS' : Sk v j (p : Int) = false := by simpa using hS
                    have PH := held_any _ _ _ _ _ _ _ (p : Int) _ wr (by omega) (by omega) r1 h2
                    rw [heldK_not false v j _ hS'] at PH
                    clear hS
                    go_wp2_with fail
                    refine PH.mono ?_
                    rintro e w' ⟨rfl, rfl⟩
                    go_wp2
                    go_ret
                    exact ⟨rfl, bel⟩
                · have hp2 : ¬ (p : Int) < 65536 := by omega
                  clear hpk hp rs
                  go_wp2
                  go_ret
                  exact ⟨rfl, bel⟩
end Go.Proofs.Qxb6614995a
