/- The bytes' side of seat b6614995a: contracts of cloneBytes, binary.BigEndian.PutUint16, (*writer).u16 and its kin. -/
import Derived.Test.Qxb6614995aRows
import Derived.Test.Qxb6614995aBase
import Derived.WalkKit
import Derived.WalkSpells
import Derived.WalkLawsBesides
import Derived.WideShapes
import Derived.Deep.OwnRows
import Derived.Deep.RegionWith
import Derived.Deep.DrawnRows
import Derived.Below
namespace Go.Proofs.Qxb6614995a
open Go.RowKit Go.WideShapes
attribute [local go_sem ↓] Go.wp_at_zero Go.wp_at_succ

theorem info5 : (Try.prog.info? 5).map (fun i => (i.zero, i.size, i.bytes)) = some (some (.int .u8 0), 1, 1) := by kernel_rfl

/-- cloneBytes at nil -/
theorem clone_nil (w : World) : Calls Try.prog 22 #[.slice none 0 0] w fun e w' => e = .returned (.slice none 0 0) ∧ w = w' := by
  have q38 : ∀ (w : World) (a : Option Addr) (n c : Nat), (binOp .eql 38 (.slice a n c) (.slice none 0 0)).run Try.prog w = .ok (.bool a.isNone) w := fun w a n c => Lib.run_eql_slice_nil w _ _ a n c 0 0 Try.underlying38
  go_enter Try.func22, Try.ntmps22
  go_wp2
  go_ret
  exact ⟨rfl, rfl⟩

set_option maxHeartbeats 800000 in
/-- cloneBytes at a slice that is not nil -/
theorem clone_any (x : Addr) (len cap : Nat) (zs : List Int) (w : World) (hl : len ≤ zs.length) (hm : len ≤ 1048576)
    (hc : ∀ i, i < zs.length → w.cell? (x.add i) = some (.int .u8 (zs.getD i 0))) :
    Calls Try.prog 22 #[.slice (some x) len cap] w fun e w' => e = .returned (.slice (some ⟨w.heap.size, 0, none⟩) len len) ∧
      w'.rowIs w.heap.size 5 len (fun i => .int .u8 (zs.getD i 0)) ∧ Below w.heap.size w w' ∧ w'.heap.size = w.heap.size + 1 := by
  have q38 : ∀ (w : World) (a : Option Addr) (n c : Nat), (binOp .eql 38 (.slice a n c) (.slice none 0 0)).run Try.prog w = .ok (.bool a.isNone) w := fun w a n c => Lib.run_eql_slice_nil w _ _ a n c 0 0 Try.underlying38
  have hmk := run_make_row' (P := Try.prog) 38 5 (.int .u8 0) 1 Try.underlying38 info5 rfl .i64 .i64 len (by omega) (by omega)
  go_enter Try.func22, Try.ntmps22
  go_wp2
  go_loopw [4] (fun i wr => ∃ k : Nat, k ≤ len ∧ i = .int .i64 k ∧ wr.rowIs w.heap.size 5 len (fun i => if i < k then .int .u8 (zs.getD i 0) else .int .u8 0) ∧ Below w.heap.size w wr ∧ wr.heap.size = w.heap.size + 1)
    (fun i _ => len - (intOf i).toNat)
  case atStart => 
    refine ⟨0, Nat.zero_le _, rfl, ?_, (Below.refl _ _).alloc (Nat.le_refl _) _, by simp⟩
    exact (World.rowIs_made w (.int .u8 0) len 5).congr (fun i hi => by simp)
  case round =>
    obtain ⟨k, hk, rfl, hrow, hbel, hsz⟩ := hrel
    by_cases hlt : k < len
    · obtain ⟨b, off, spot⟩ := x
      have hspot : spot = none := by simpa [Addr.add] using World.cell?_spot (hc 0 (by omega))
      subst hspot
      have hk0 : w.cell? ⟨b, off + k, none⟩ = some (.int .u8 (zs.getD k 0)) := by rw [← add_plain]; exact hc k (by omega)
      have hb : b < w.heap.size := by have := World.block_lt_of_cell? _ _ hk0; simpa using this
      have hcx : wr.cell? ⟨b, off + k, none⟩ = some (.int .u8 (zs.getD k 0)) := (hbel.cell (p := ⟨b, off + k, none⟩) hb).trans hk0
      have hcy := hrow.cell hlt
      have hfy := hrow.frozen k
      have hne : ¬ w.heap.size = b := by omega
      clear hc hk0
      go_wp2
      go_roundw
      case rel =>
        refine ⟨k + 1, by omega, by go_num, ?_, hbel.setCell (Nat.le_refl _) _, by simpa using hsz⟩
        refine (hrow.set k _).congr (fun i hi => ?_)
        by_cases e : i = k
        · subst e; simp
        · by_cases e2 : i < k
          · simp [e, e2, show i < k + 1 by omega]
          · simp [e, e2, show ¬ i < k + 1 by omega]
      case measure => simp [intOf]; omega
    · go_wp2
      go_ret
      have : k = len := by omega
      subst this
      exact ⟨rfl, hrow.congr (fun i hi => by simp [hi]), hbel, hsz⟩
theorem put_any (g o n c : Nat) (v : Int) (h0 : 0 ≤ v) (h1 : v ≤ 65535) (x0 x1 : Value) (w : World) (hn : 2 ≤ n)
    (c0 : w.cell? ⟨g, o, none⟩ = some x0) (c1 : w.cell? ⟨g, o + 1, none⟩ = some x1)
    (f0 : w.frozen? ⟨g, o, none⟩ = false) (f1 : w.frozen? ⟨g, o + 1, none⟩ = false) :
    Calls Try.prog 46 #[.agg #[], .slice (some ⟨g, o, none⟩) n c, .int .u16 v] w fun e w' => e = .returned (.tuple #[]) ∧
      w' = ((w.setCell ⟨g, o, none⟩ (.int .u8 (v / 256))).setCell ⟨g, o + 1, none⟩ (.int .u8 (v % 256))).alloc (.cells #[] 93) := by
  have hg : g < w.heap.size := by have := World.block_lt_of_cell? _ _ c0; simpa using this
  have hne : ¬ g = w.heap.size := by omega
  have fa0 := (frozen?_alloc_cells w #[] 93 ⟨g, o, none⟩).trans f0
  have fa1 := (frozen?_alloc_cells w #[] 93 ⟨g, o + 1, none⟩).trans f1
  go_enter Try.func46, Try.ntmps46
  go_wp2
  go_end0
  exact ⟨rfl, rfl⟩

set_option maxHeartbeats 800000 in
theorem u16_raw (g wb n off : Nat) (v : Int) (h0 : 0 ≤ v) (h1 : v ≤ 65535) (x0 x1 : Value) (w : World) (hn : off + 2 ≤ n) (hn2 : n ≤ 1048576) (hne : g ≠ wb)
    (cw0 : w.cell? ⟨wb, 0, none⟩ = some (.slice (some ⟨g, 0, none⟩) n n)) (cw1 : w.cell? ⟨wb, 1, none⟩ = some (.int .i64 (off : Int))) (fw1 : w.frozen? ⟨wb, 1, none⟩ = false)
    (c0 : w.cell? ⟨g, off, none⟩ = some x0) (c1 : w.cell? ⟨g, off + 1, none⟩ = some x1)
    (f0 : w.frozen? ⟨g, off, none⟩ = false) (f1 : w.frozen? ⟨g, off + 1, none⟩ = false) :
    Calls Try.prog 38 #[.pointer (some ⟨wb, 0, none⟩), .int .u16 v] w fun e w' => e = .returned (.tuple #[]) ∧
      w' = ((((w.setCell ⟨g, off, none⟩ (.int .u8 (v / 256))).setCell ⟨g, off + 1, none⟩ (.int .u8 (v % 256))).setCell ⟨wb, 1, none⟩ (.int .i64 ((off : Int) + 2))).alloc (.cells #[] 93)).drew := by
  have hg : g < w.heap.size := by have := World.block_lt_of_cell? _ _ c0; simpa using this
  have hwb : wb < w.heap.size := by have := World.block_lt_of_cell? _ _ cw0; simpa using this
  have e1 : (0:Int) ≤ (off : Int) := by omega
  have e2 : (off:Int) ≤ (n : Int) := by omega
  have hno : ¬ n = off := by omega
  have P := put_any g off (n - off) (n - off) v h0 h1 x0 x1 w.drew (by omega) c0 c1 f0 f1
  have hne' : ¬ g = wb := hne
  have hne2 : ¬ wb = g := fun h => hne h.symm
  have hne3 : ¬ wb = w.heap.size := by omega
  go_enter Try.func38, Try.ntmps38
  go_wp2
  go_region_with (go_at_call 46; refine P.mono ?_; rintro e w' ⟨rfl, rfl⟩)
  all_goals
    clear P
    go_wp2
    go_end0
    exact ⟨rfl, rfl⟩

/-- The writer's two cells. -/
def wcell (g n : Nat) (off : Int) (i : Nat) : Value := if i = 0 then .slice (some ⟨g, 0, none⟩) n n else .int .i64 off

theorem u16_any (g wb n off : Nat) (v : Int) (f : Nat → Int) (h0 : 0 ≤ v) (h1 : v ≤ 65535) (w : World) (hn : off + 2 ≤ n) (hn2 : n ≤ 1048576) (hne : g ≠ wb)
    (hr : w.rowIs g 5 n (fun i => .int .u8 (f i))) (hw : w.rowIs wb 87 2 (wcell g n (off : Int))) :
    Calls Try.prog 38 #[.pointer (some ⟨wb, 0, none⟩), .int .u16 v] w fun e w' => e = .returned (.tuple #[]) ∧
      w'.rowIs g 5 n (fun i => .int .u8 (if i = off then v / 256 else if i = off + 1 then v % 256 else f i)) ∧ w'.rowIs wb 87 2 (wcell g n ((off : Int) + 2)) ∧
      Turned (fun k => k = g ∨ k = wb) w w' := by
  refine (u16_raw g wb n off v h0 h1 _ _ w hn hn2 hne (hw.cell (i := 0) (by omega)) (hw.cell (i := 1) (by omega)) (hw.frozen 1) (hr.cell (by omega)) (hr.cell (by omega)) (hr.frozen _) (hr.frozen _)).mono ?_
  rintro e w' ⟨he, rfl⟩
  refine ⟨he, ?_, ?_, ?_⟩
  · refine World.rowIs.drew (World.rowIs.alloc (World.rowIs.setOther ?_ (by simpa using hne) _) _)
    refine ((hr.set off _).set (off + 1) _).congr (fun i hi => ?_)
    by_cases e1 : i = off + 1
    · subst e1; simp
    · by_cases e2 : i = off
      · subst e2; simp
      · simp [e1, e2]
  · refine World.rowIs.drew (World.rowIs.alloc ?_ _)
    refine (((hw.setOther (by simpa using hne.symm) _).setOther (by simpa using hne.symm) _).set 1 _).congr (fun i hi => ?_)
    by_cases e1 : i = 1
    · subst e1; simp [wcell]
    · have : i = 0 := by omega
      subst this; simp [wcell]
  · exact (((((Turned.refl _ _).setCell (Or.inl rfl) _).setCell (Or.inl rfl) _).setCell (Or.inr rfl) _).alloc _).drew

theorem zzu16_any (g wb n off : Nat) (v : Int) (f : Nat → Int) (h0 : 0 ≤ v) (h1 : v ≤ 65535) (w : World) (hn : off + 2 ≤ n) (hn2 : n ≤ 1048576) (hne : g ≠ wb)
    (hr : w.rowIs g 5 n (fun i => .int .u8 (f i))) (hw : w.rowIs wb 87 2 (wcell g n (off : Int))) :
    Calls Try.prog 24 #[.pointer (some ⟨wb, 0, none⟩), .int .u16 v] w fun e w' => e = .returned (.tuple #[]) ∧
      w'.rowIs g 5 n (fun i => .int .u8 (if i = off then v / 256 else if i = off + 1 then v % 256 else f i)) ∧ w'.rowIs wb 87 2 (wcell g n ((off : Int) + 2)) ∧
      Turned (fun k => k = g ∨ k = wb) w w' := by
  have P := u16_any g wb n off v f h0 h1 w hn hn2 hne hr hw
  go_enter Try.func24, Try.ntmps24
  go_wp2_with (go_at_call 38; refine P.mono ?_; rintro e w' ⟨rfl, r1, r2, r3⟩)
  go_end0
  exact ⟨rfl, r1, r2, r3⟩

theorem wcell_read (g n : Nat) (off : Int) (wb : Nat) (w : World) (hw : w.rowIs wb 87 2 (wcell g n off)) :
    w.cell? ⟨wb, 0, none⟩ = some (.slice (some ⟨g, 0, none⟩) n n) ∧ w.cell? ⟨wb, 1, none⟩ = some (.int .i64 off) :=
  ⟨hw.cell (i := 0) (by omega), hw.cell (i := 1) (by omega)⟩

theorem woff_any (g wb n : Nat) (off : Int) (w : World) (hw : w.rowIs wb 87 2 (wcell g n off)) :
    Calls Try.prog 25 #[.pointer (some ⟨wb, 0, none⟩)] w fun e w' => e = .returned (.int .i64 off) ∧ w = w' := by
  obtain ⟨c0, c1⟩ := wcell_read g n off wb w hw
  go_enter Try.func25, Try.ntmps25
  go_wp2
  go_ret
  exact ⟨rfl, rfl⟩

theorem wb_any (g wb n : Nat) (off : Int) (w : World) (hw : w.rowIs wb 87 2 (wcell g n off)) :
    Calls Try.prog 26 #[.pointer (some ⟨wb, 0, none⟩)] w fun e w' => e = .returned (.slice (some ⟨g, 0, none⟩) n n) ∧ w = w' := by
  obtain ⟨c0, c1⟩ := wcell_read g n off wb w hw
  go_enter Try.func26, Try.ntmps26
  go_wp2
  go_ret
  exact ⟨rfl, rfl⟩

theorem newW_any (g n : Nat) (off : Int) (w : World) :
    Calls Try.prog 23 #[.slice (some ⟨g, 0, none⟩) n n, .int .i64 off] w fun e w' => e = .returned (.pointer (some ⟨w.heap.size, 0, none⟩)) ∧
      w'.rowIs w.heap.size 87 2 (wcell g n off) ∧ Turned (fun _ => False) w w' ∧ w'.heap.size = w.heap.size + 1 := by
  go_enter Try.func23, Try.ntmps23
  go_wp2
  go_ret
  refine ⟨rfl, ?_, (Turned.refl _ _).alloc _, by simp⟩
  refine (World.rowIs_alloc w #[.slice (some ⟨g, 0, none⟩) n n, .int .i64 off] 87 (wcell g n off) (fun i hi => ?_))
  have hi' : i < 2 := hi
  match i, hi' with
  | 0, _ => rfl
  | 1, _ => rfl

end Go.Proofs.Qxb6614995a
