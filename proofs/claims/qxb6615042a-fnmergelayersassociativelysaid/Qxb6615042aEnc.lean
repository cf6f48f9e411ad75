/- Encoded flags: cells in the middle of a block; the parts; two that are the same; one made. -/
import Derived.Test.Qxb6615042aFls
import Derived.Deep.RegionHeld3
import Derived.Great.Walk
import Derived.Great.BuildSlice
namespace Go.Proofs.Qxb6615042a
open Go.RowKit

theorem info44 : (Try.prog.info? 44).map (·.size) = some 32 := by kernel_rfl
theorem info48 : (Try.prog.info? 48).map (·.size) = some 34 := by kernel_rfl

/-- 32 bytes, each a cell. -/
def SumOk (s : List Value) : Prop := s.length = 32 ∧ ∀ v ∈ s, ∃ i, v = .int .u8 i
theorem SumOk.one {s : List Value} (h : SumOk s) : ∀ v ∈ s, v.oneCell' = true := fun v hv => by obtain ⟨i, rfl⟩ := h.2 v hv; rfl

theorem load44 {w : World} {b o : Nat} {s : List Value} (h : w.rangeAt b o s) (hs : s.length = 32) : (Instr.loadAt 44 (.pointer (some ⟨b, o, none⟩))).run Try.prog w = .ok (.agg s.toArray) w :=
  run_loadAt_mid w b o 44 s _ h Try.underlying44 rfl (by rw [info44, hs])
theorem loadv44 {w : World} {b o : Nat} {s : List Value} (h : w.rangeAt b o s) (hs : s.length = 32) : (loadVar 44 ⟨b, o, none⟩).run Try.prog w = .ok (.agg s.toArray) w :=
  run_loadVar_mid w b o 44 s _ h Try.underlying44 rfl (by rw [info44, hs])
theorem load48 {w : World} {b o : Nat} {s : List Value} (h : w.rangeAt b o s) (hs : s.length = 34) : (Instr.loadAt 48 (.pointer (some ⟨b, o, none⟩))).run Try.prog w = .ok (.agg s.toArray) w :=
  run_loadAt_mid w b o 48 s _ h Try.underlying48 rfl (by rw [info48, hs])
theorem loadv48 {w : World} {b o : Nat} {s : List Value} (h : w.rangeAt b o s) (hs : s.length = 34) : (loadVar 48 ⟨b, o, none⟩).run Try.prog w = .ok (.agg s.toArray) w :=
  run_loadVar_mid w b o 48 s _ h Try.underlying48 rfl (by rw [info48, hs])
theorem store44 {w : World} {b o : Nat} {s : List Value} (h : w.there b o 32) (hs : s.length = 32) (h1 : ∀ v ∈ s, v.oneCell' = true) :
    (Instr.storeAt 44 (.pointer (some ⟨b, o, none⟩)) (.agg s.toArray)).run Try.prog w = .ok () (w.setCells b o s) := by
  have := run_storeAt_mid (P := Try.prog) w b o 44 s.toArray (by rw [List.size_toArray, hs]; exact h) (by rw [info44, List.size_toArray, hs]) (all_oneCell_toArray h1)
  simpa using this
theorem store48 {w : World} {b o : Nat} {s : List Value} (h : w.there b o 34) (hs : s.length = 34) (h1 : ∀ v ∈ s, v.oneCell' = true) :
    (Instr.storeAt 48 (.pointer (some ⟨b, o, none⟩)) (.agg s.toArray)).run Try.prog w = .ok () (w.setCells b o s) := by
  have := run_storeAt_mid (P := Try.prog) w b o 48 s.toArray (by rw [List.size_toArray, hs]; exact h) (by rw [info48, List.size_toArray, hs]) (all_oneCell_toArray h1)
  simpa using this

theorem Turned.setCells {S : Nat → Prop} {a : World} {b : Nat} (hb : S b) : ∀ (vs : List Value) (o : Nat) (w : World), Turned S a w → Turned S a (w.setCells b o vs)
  | [], _, _, h => h
  | v :: r, o, w, h => by rw [World.setCells]; exact Turned.setCells hb r (o + 1) _ (h.setCell hb v)
theorem Turned.range {S : Nat → Prop} {w w' : World} (h : Turned S w w') {b o : Nat} {cs : List Value} (hr : w.rangeAt b o cs) (hb : b < w.heap.size) (hS : ¬ S b) : w'.rangeAt b o cs :=
  fun j v hv => by rw [h.cell hb hS]; exact hr j v hv
theorem Below.range {B : Nat} {w w' : World} (h : Below B w w') {b o : Nat} {cs : List Value} (hr : w.rangeAt b o cs) (hb : b < B) : w'.rangeAt b o cs :=
  fun j v hv => by
    have : w'.cell? ⟨b, o + j, none⟩ = w.cell? ⟨b, o + j, none⟩ := World.cell?_of_block (w := w) (h.block b hb)
    rw [this]; exact hr j v hv
theorem setCells_size (b : Nat) : ∀ (vs : List Value) (o : Nat) (w : World), (w.setCells b o vs).heap.size = w.heap.size
  | [], _, _ => rfl
  | v :: r, o, w => by rw [World.setCells, setCells_size b r]; simp [World.setCell]

/-- A new block, with whatever follows it in the heap: its cells. -/
theorem range_new (w : World) (cs : List Value) (t : TypeId) (o : Nat) (ds : List Value) (h : ∀ j v, ds[j]? = some v → cs[o + j]? = some v) : (w.alloc (.cells cs.toArray t)).rangeAt w.heap.size o ds := fun j v hv => by
  rw [cell_of_row _ _ _ cs.toArray t (0, 0) (heap_alloc_new w _)]
  simpa using h j v hv
theorem there_new (w : World) (cs : Array Value) (t : TypeId) (n : Nat) (h : n ≤ cs.size) : (w.alloc (.cells cs t)).there w.heap.size 0 n := fun j hj => by
  have hb := heap_alloc_new w (.cells cs t)
  constructor
  · rw [cell_of_row _ _ _ cs t (0, 0) hb]
    simp; omega
  · simp only [World.frozen?, hb]; simp

theorem results_ttc {fn : Func} {t u p : Tmp} {ty : TypeId} (h : fn.results = #[.tmp t, .tmp u, .cell p ty]) (tmps : Array Value) (P : Program) (w : World) (a : Addr) (v : Value)
    (hp : tmps.getD p undef = .pointer (some a)) (hl : (loadVar ty a).run P w = .ok v w) : (results fn tmps).run P w = .ok (.tuple #[tmps.getD t undef, tmps.getD u undef, v]) w := by
  have hp' : tmps[p]?.getD undef = .pointer (some a) := by simpa using hp
  simp [results, h, hp', asAddr, hl]
theorem results_c {fn : Func} {p : Tmp} {ty : TypeId} (h : fn.results = #[.cell p ty]) (tmps : Array Value) (P : Program) (w : World) (a : Addr) (v : Value)
    (hp : tmps.getD p undef = .pointer (some a)) (hl : (loadVar ty a).run P w = .ok v w) : (results fn tmps).run P w = .ok v w := by
  have hp' : tmps[p]?.getD undef = .pointer (some a) := by simpa using hp
  simp [results, h, hp', asAddr, hl]

set_option maxRecDepth 100000 in
theorem parts20 (f j : Value) (s : List Value) (w : World) (hs : SumOk s) :
    Calls Try.prog 20 #[.agg (f :: j :: s).toArray] w fun e w' => e = .returned (.tuple #[f, j, .agg s.toArray]) ∧ Below w.heap.size w w' := by
  go_enter Try.func20, Try.ntmps20
  go_wp2
  generalize hZ : (#[Value.int IntKind.u8 0, Value.int IntKind.u8 0, Value.int IntKind.u8 0, Value.int IntKind.u8 0, Value.int IntKind.u8 0, Value.int IntKind.u8 0, Value.int IntKind.u8 0, Value.int IntKind.u8 0, Value.int IntKind.u8 0, Value.int IntKind.u8 0, Value.int IntKind.u8 0, Value.int IntKind.u8 0, Value.int IntKind.u8 0, Value.int IntKind.u8 0, Value.int IntKind.u8 0, Value.int IntKind.u8 0, Value.int IntKind.u8 0, Value.int IntKind.u8 0, Value.int IntKind.u8 0, Value.int IntKind.u8 0, Value.int IntKind.u8 0, Value.int IntKind.u8 0, Value.int IntKind.u8 0, Value.int IntKind.u8 0, Value.int IntKind.u8 0, Value.int IntKind.u8 0, Value.int IntKind.u8 0, Value.int IntKind.u8 0, Value.int IntKind.u8 0, Value.int IntKind.u8 0, Value.int IntKind.u8 0, Value.int IntKind.u8 0] : Array Value) = Z
  have hZ32 : Z.size = 32 := by rw [← hZ]; rfl
  clear hZ
  have bW : Below w.heap.size w ((w.alloc (.cells (f :: j :: s).toArray 48)).alloc (.cells Z 44)) := ((Below.refl _ _).alloc (Nat.le_refl _) _).alloc (by simp) _
  have r0 := World.rangeAt_alloc (range_new w (f :: j :: s) 48 0 (f :: j :: s) (fun j v h => by simpa using h)) (.cells Z 44)
  have r2 := World.rangeAt_alloc (range_new w (f :: j :: s) 48 2 s (fun j v h => by rw [Nat.add_comm]; simpa using h)) (.cells Z 44)
  have t0 := there_new (w.alloc (.cells (f :: j :: s).toArray 48)) Z 44 32 (by omega)
  have eN : (w.alloc (.cells (f :: j :: s).toArray 48)).heap.size = w.heap.size + 1 := by simp
  rw [eN] at t0
  generalize (w.alloc (.cells (f :: j :: s).toArray 48)).alloc (.cells Z 44) = W at *
  have c0 : W.cell? ⟨w.heap.size, 0, none⟩ = some f := r0 0 f rfl
  have c1 : W.cell? ⟨w.heap.size, 1, none⟩ = some j := r0 1 j rfl
  have hN : w.heap.size ≤ W.heap.size := bW.size
  generalize hNN : w.heap.size = N at *
  have t0' : W.drew.there (N + 1) 0 32 := by simpa using t0
  have bF : Below N w (W.drew.setCells (N + 1) 0 s) := bW.drew.trans ((Turned.setCells (S := fun k => k = N + 1) rfl s 0 _ (Turned.refl _ _)).below (B := N) hN (fun k h => by omega))
  have R := loadv44 (World.rangeAt_setCells_same W.drew (N + 1) 0 s (by rw [hs.1]; exact t0')) hs.1
  have u44 := Try.underlying44
  have i44 : (Try.prog.info? 44).map (·.size) = some s.length := by rw [info44, hs.1]
  have l44 := hs.1
  have o44 := hs.one
  clear r0 t0' eN
  have keep : ∀ X : World, (X.cell? ⟨N, 0, none⟩ = some f ∧ X.cell? ⟨N, 1, none⟩ = some j ∧ X.rangeAt N 2 s ∧ X.there (N + 1) 0 32) → ((X.setCells (N + 1) 0 s).cell? ⟨N, 0, none⟩ = some f ∧ (X.setCells (N + 1) 0 s).cell? ⟨N, 1, none⟩ = some j ∧ (X.setCells (N + 1) 0 s).rangeAt N 2 s ∧ (X.setCells (N + 1) 0 s).there (N + 1) 0 32) := fun X ⟨h1, h2, h3, h4⟩ =>
    ⟨by rw [World.cell?_setCells_out _ _ _ _ _ (fun e _ => absurd e (by simp))]; exact h1, by rw [World.cell?_setCells_out _ _ _ _ _ (fun e _ => absurd e (by simp))]; exact h2, World.rangeAt_setCells_apart h3 _ _ _ (Or.inl (by omega)), World.there_setCells h4 _ _ _⟩
  go_region_held3 (fun X => X.cell? ⟨N, 0, none⟩ = some f ∧ X.cell? ⟨N, 1, none⟩ = some j ∧ X.rangeAt N 2 s ∧ X.there (N + 1) 0 32)
    (first | exact ⟨c0, c1, by simpa using r2, by simpa using t0⟩ | (apply keep; assumption)) (fail)
  all_goals
    go_wp2
    refine bodyPost_ret (results_ttc rfl _ _ _ ⟨N + 1, 0, none⟩ (.agg s.toArray) rfl R) rfl ⟨rfl, ?_⟩
    rw [hNN]; exact bF

theorem beq30 (a : Option Addr) (n c : Nat) (w : World) (hn : n ≤ 1048576) (hs : Bys w a n) :
    Calls Try.prog 30 #[.slice a n c, .slice a n c] w fun e w' => e = .returned (.bool true) ∧ ∃ m, w' = w.drewN m := by
  go_enter Try.func30, Try.ntmps30
  go_wp2
  go_loopw [5] (fun i wr => ∃ k : Nat, k ≤ n ∧ i = .int .i64 k ∧ ∃ m, wr = w.drewN m) (fun i _ => n - (intOf i).toNat)
  case atStart => exact ⟨0, Nat.zero_le _, rfl, 0, rfl⟩
  case round =>
    obtain ⟨k, hk, rfl, m, rfl⟩ := hrel
    by_cases hlt : k < n
    · obtain ⟨b, o, rfl, hb, hc⟩ := hs (by omega)
      obtain ⟨v, f0⟩ := hc k hlt
      have c0 : (w.drewN m).cell? ⟨b, o + k, none⟩ = some (.int .u8 v) := f0
      have i0 : (k : Int) < (n : Int) := by omega
      clear hc hs
      go_wp2
      go_quiet (fail)
      go_wp2
      go_roundw
      case rel => exact ⟨k + 1, by omega, by go_num, _, rfl⟩
      case measure => simp [intOf]; omega
    · go_wp2
      go_ret
      exact ⟨rfl, m, rfl⟩

theorem len_succ {s : List Value} {n : Nat} (h : s.length = n + 1) : ∃ a t, s = a :: t ∧ t.length = n := by
  cases s with
  | nil => cases h
  | cons a t => exact ⟨a, t, rfl, by simpa using h⟩
theorem build48 (x : Option Addr) (ja : Option Addr) (jl jc : Nat) (s : List Value) (h : s.length = 32) : Try.prog.built 48 [(0, .pointer x), (1, .slice ja jl jc), (2, .agg s.toArray)] = some (Value.pointer x :: Value.slice ja jl jc :: s).toArray := by
  obtain ⟨a0, s0, rfl, h0⟩ := len_succ h
  obtain ⟨a1, s1, rfl, h1⟩ := len_succ h0
  obtain ⟨a2, s2, rfl, h2⟩ := len_succ h1
  obtain ⟨a3, s3, rfl, h3⟩ := len_succ h2
  obtain ⟨a4, s4, rfl, h4⟩ := len_succ h3
  obtain ⟨a5, s5, rfl, h5⟩ := len_succ h4
  obtain ⟨a6, s6, rfl, h6⟩ := len_succ h5
  obtain ⟨a7, s7, rfl, h7⟩ := len_succ h6
  obtain ⟨a8, s8, rfl, h8⟩ := len_succ h7
  obtain ⟨a9, s9, rfl, h9⟩ := len_succ h8
  obtain ⟨a10, s10, rfl, h10⟩ := len_succ h9
  obtain ⟨a11, s11, rfl, h11⟩ := len_succ h10
  obtain ⟨a12, s12, rfl, h12⟩ := len_succ h11
  obtain ⟨a13, s13, rfl, h13⟩ := len_succ h12
  obtain ⟨a14, s14, rfl, h14⟩ := len_succ h13
  obtain ⟨a15, s15, rfl, h15⟩ := len_succ h14
  obtain ⟨a16, s16, rfl, h16⟩ := len_succ h15
  obtain ⟨a17, s17, rfl, h17⟩ := len_succ h16
  obtain ⟨a18, s18, rfl, h18⟩ := len_succ h17
  obtain ⟨a19, s19, rfl, h19⟩ := len_succ h18
  obtain ⟨a20, s20, rfl, h20⟩ := len_succ h19
  obtain ⟨a21, s21, rfl, h21⟩ := len_succ h20
  obtain ⟨a22, s22, rfl, h22⟩ := len_succ h21
  obtain ⟨a23, s23, rfl, h23⟩ := len_succ h22
  obtain ⟨a24, s24, rfl, h24⟩ := len_succ h23
  obtain ⟨a25, s25, rfl, h25⟩ := len_succ h24
  obtain ⟨a26, s26, rfl, h26⟩ := len_succ h25
  obtain ⟨a27, s27, rfl, h27⟩ := len_succ h26
  obtain ⟨a28, s28, rfl, h28⟩ := len_succ h27
  obtain ⟨a29, s29, rfl, h29⟩ := len_succ h28
  obtain ⟨a30, s30, rfl, h30⟩ := len_succ h29
  obtain ⟨a31, s31, rfl, h31⟩ := len_succ h30
  obtain rfl := List.eq_nil_of_length_eq_zero h31
  kernel_rfl
end Go.Proofs.Qxb6615042a
