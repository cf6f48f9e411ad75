/- What a context holds, as a plain function; NewContext, ZZNewContextOfStrings, ZZContextLen, ZZContextString. -/
import Derived.Test.Qxb6615042aMaps
import Derived.RegionTactic
namespace Go.Proofs.Qxb6615042a
open Go.RowKit Go.Maps
open Go.WideMaps (keyOf_string_mk)

theorem ta9 (v : ByteArray) (w : World) : (Instr.typeAssert (.iface 9 (.string v)) 20 9 true).run Try.prog w = .ok (.tuple #[.string v, .bool true]) w := by kernel_rfl

/-- How an element reads: a string held in 'any', or nil. -/
def strElem : Value → Option (DataW Unit × List MemPlace)
  | .iface 9 (.string s) => some (.lit (.string s.data.toList), [])
  | .nilIface => some (.nil, [])
  | _ => none
theorem strElem_str (s : ByteArray) : strElem (.iface 9 (.string s)) = some (.lit (.string s.data.toList), []) := rfl

abbrev MapF := List UInt8 → Option (List UInt8)
def upd (M : MapF) (k v : List UInt8) : MapF := fun j => if j = k then some v else M j
def dat (o : Option (List UInt8)) : DataW Unit := match o with | some v => .lit (.string v) | none => .nil

/-- THE MAP IN BLOCK b HOLDS M: sz entries, at most n. -/
def CtxIs (w : World) (b n : Nat) (M : MapF) (sz : Nat) : Prop :=
  ∃ D : DataW Unit, w.ownsMap Try.prog 9 strElem b n D ∧ (∀ k, D.atKey (.string k) .nil = dat (M k)) ∧ (∀ k, Maps.has D (.string k) = (M k).isSome) ∧ Maps.size D = sz

theorem CtxIs.lt {w : World} {b n sz : Nat} {M : MapF} (h : CtxIs w b n M sz) : b < w.heap.size := by
  obtain ⟨D, ho, _⟩ := h
  exact ho.lt
theorem Turned.ctx {S : Nat → Prop} {w w' : World} (h : Turned S w w') {b n sz : Nat} {M : MapF} (hc : CtxIs w b n M sz) (hS : ¬ S b) : CtxIs w' b n M sz := by
  obtain ⟨D, ho, r⟩ := hc
  exact ⟨D, h.map ho hS, r⟩

theorem ctx_made (w : World) : CtxIs (w.alloc (.map #[] 0)) w.heap.size 0 (fun _ => none) 0 :=
  ⟨.map [], World.ownsMap_made w _ _ _, fun _ => rfl, fun _ => rfl, rfl⟩

/-- One more, unless it was there. -/
def bump (b : Bool) (c : Nat) : Nat := if b then c else c + 1

theorem ctx_put {w' : World} {b n sz : Nat} {M : MapF} {D : DataW Unit} {k v : List UInt8} (hI : IsMap D) (hT : Tidy D) (hat : ∀ k, D.atKey (.string k) .nil = dat (M k)) (hhas : ∀ k, Maps.has D (.string k) = (M k).isSome) (hsz : Maps.size D = sz)
    (ho : w'.ownsMap Try.prog 9 strElem b n (D.put (.string k) (.lit (.string v)))) : CtxIs w' b n (upd M k v) (bump (M k).isSome sz) := by
  refine ⟨_, ho, fun j => ?_, fun j => ?_, ?_⟩
  · by_cases e : j = k
    · subst e; rw [atKey_put_same hI (show WideAt.IsKeyLit (.string j) from trivial)]; simp [upd, dat]
    · rw [atKey_put_other (fun h => e (by injection h)), hat]; simp [upd, e]
  · by_cases e : j = k
    · subst e; rw [has_put_same hI (show WideAt.IsKeyLit (.string j) from trivial)]; simp [upd]
    · rw [has_put_other (fun h => e (by injection h)), hhas]; simp [upd, e]
  · rw [size_put hT, hhas, hsz]; rfl

/-- A store, as the run's equation. -/
theorem ctx_store {w : World} {b n sz : Nat} {M : MapF} (h : CtxIs w b n M sz) (t : TypeId) (ht : Try.prog.underlying t = some (.map 9 20)) (hn : n < maxLen) (k v : ByteArray) (hk : k.size ≤ maxLen) :
    ∃ w', (Instr.mapUpdate t (.map (some b)) (.string k) (.iface 9 (.string v))).run Try.prog w = .ok () w' ∧ CtxIs w' b (n + 1) (upd M k.data.toList v.data.toList) (bump (M k.data.toList).isSome sz) ∧ w.grownBy w' (some b) := by
  obtain ⟨D, ho, hat, hhas, hsz⟩ := h
  obtain ⟨w', hrun, ho', hg⟩ := ho.update law9 ht hn (keyOf_string_mk Try.underlying9 hk) (strElem_str v)
  exact ⟨w', hrun, ctx_put ho.isMap (ho.tidy law9) hat hhas hsz ho', hg⟩

/-- A look-up. -/
theorem ctx_look {w : World} {b n sz : Nat} {M : MapF} (h : CtxIs w b n M sz) (k v : ByteArray) (hk : k.size ≤ maxLen) (hM : M k.data.toList = some v.data.toList) :
    (Instr.lookup 27 (.map (some b)) (.string k) false).run Try.prog w = .ok (.iface 9 (.string v)) w := by
  obtain ⟨D, ho, hat, _⟩ := h
  obtain ⟨u, ps, hrun, hv⟩ := ho.lookup law9 Try.underlying27 (zero20 w) (zd := .nil) (zp := []) rfl (keyOf_string_mk Try.underlying9 hk)
  rw [hat, hM] at hv
  have : u = .iface 9 (.string v) := by
    unfold strElem at hv
    split at hv
    · rename_i s
      simp only [dat, Option.some.injEq, Prod.mk.injEq, DataW.lit.injEq, Lit.string.injEq] at hv
      rw [WideShapes.bytes_inj hv.1]
    · simp [dat] at hv
    · cases hv
  rw [this] at hrun
  exact hrun

theorem len25_any (b n sz : Nat) (M : MapF) (w : World) (h : CtxIs w b n M sz) :
    Calls Try.prog 25 #[.map (some b)] w fun e w' => e = .returned (.int .i64 sz) ∧ w = w' := by
  obtain ⟨D, ho, _, _, rfl⟩ := h
  have hl := fun ty => ho.len Try.underlying27 ty
  go_enter Try.func25, Try.ntmps25
  go_wp2
  go_ret
  exact ⟨rfl, rfl⟩

theorem str26_any (b n sz : Nat) (M : MapF) (k v : ByteArray) (w : World) (h : CtxIs w b n M sz) (hk : k.size ≤ maxLen) (hM : M k.data.toList = some v.data.toList) :
    Calls Try.prog 26 #[.map (some b), .string k] w fun e w' => e = .returned (.tuple #[.string v, .bool true]) ∧ w = w' := by
  have hl := ctx_look h k v hk hM
  have hta := ta9 v
  go_enter Try.func26, Try.ntmps26
  go_wp2
  go_ret2
  exact ⟨rfl, rfl⟩

/-- "targetingKey" -/
def TK : ByteArray := ⟨#[116, 97, 114, 103, 101, 116, 105, 110, 103, 75, 101, 121]⟩
def withKey (tk : ByteArray) (M : MapF) : MapF := if tk.toList.isEmpty then M else upd M TK.data.toList tk.data.toList
def withSz (tk : ByteArray) (M : MapF) (sz : Nat) : Nat := if tk.toList.isEmpty then sz else bump (M TK.data.toList).isSome sz

set_option maxHeartbeats 800000 in
theorem newctx_some (tk : ByteArray) (b n sz : Nat) (M : MapF) (w : World) (h : CtxIs w b n M sz) (hsz : sz ≤ 1048576) :
    Calls Try.prog 12 #[.string tk, .map (some b)] w fun e w' => e = .returned (.map (some w.heap.size)) ∧ CtxIs w' w.heap.size (sz + 1) (withKey tk M) (withSz tk M sz) ∧ CtxIs w' b n M sz ∧ Below w.heap.size w w' := by
  have hb := h.lt
  have h1 : CtxIs (w.alloc (.map #[] 0)) b n M sz := ((Turned.refl (fun _ => False) w).alloc _).ctx h (fun h => h)
  obtain ⟨D, ho, hat, hhas, hs⟩ := h
  have hl := fun ty => ho.len Try.underlying26 ty
  rw [hs] at hl
  have hmk := mk27
  have PC := copy27_any strElem w.heap.size b n D (w.alloc (.map #[] 0)) (ho.alloc _) (World.ownsMap_made w _ _ _) (by omega) (by unfold maxLen; omega)
  go_enter Try.func12, Try.ntmps12
  go_wp2_with fail
  refine PC.mono ?_
  rintro e w1 ⟨rfl, o1, o2, t1⟩
  have hc1 : CtxIs w1 w.heap.size sz M sz := ⟨D, by rw [hs] at o1; exact o1, hat, hhas, hs⟩
  have hc2 : CtxIs w1 b n M sz := ⟨D, o2, hat, hhas, hs⟩
  have bel : Below w.heap.size w w1 := ((Below.refl _ _).alloc (Nat.le_refl _) _).trans (t1.below (B := w.heap.size) (by simp) (fun k e => by omega))
  clear PC o1 o2 t1 hl h1 ho
  cases he : tk.toList.isEmpty
  · obtain ⟨w2, hrun, hc3, hg⟩ := ctx_store hc1 27 Try.underlying27 (by unfold maxLen; omega) TK tk (by decide)
    have hc4 : CtxIs w2 b n M sz := (Turned.of_grown hg).ctx hc2 (by omega)
    have bel2 : Below w.heap.size w w2 := bel.grown hg bel.size (fun k e => by injection e with e; omega)
    unfold TK at hrun
    go_wp2
    go_ret
    exact ⟨rfl, by simpa [withKey, withSz, he] using hc3, hc4, bel2⟩
  · go_wp2
    go_ret
    obtain ⟨D', ho', r'⟩ := hc1
    exact ⟨rfl, by simpa [withKey, withSz, he] using ⟨D', ho'.mono (Nat.le_succ _), r'⟩, hc2, bel⟩

set_option maxHeartbeats 800000 in
theorem newctx_nil (tk : ByteArray) (w : World) :
    Calls Try.prog 12 #[.string tk, .map none] w fun e w' => e = .returned (.map (some w.heap.size)) ∧ CtxIs w' w.heap.size 1 (withKey tk (fun _ => none)) (withSz tk (fun _ => none) 0) ∧ Below w.heap.size w w' := by
  have hl : ∀ ty, (Builtin.len_ #[26] ty #[.map none]).run Try.prog w = .ok (.int .i64 0) w := fun ty => Maps.len_nil Try.underlying26 ty
  have hmk := mk27
  have PC := copy27_nil w.heap.size (w.alloc (.map #[] 0))
  go_enter Try.func12, Try.ntmps12
  go_wp2_with fail
  refine PC.mono ?_
  rintro e w1 ⟨rfl, t1⟩
  have hc1 : CtxIs w1 w.heap.size 0 (fun _ => none) 0 := t1.ctx (ctx_made w) (fun h => h)
  have bel : Below w.heap.size w w1 := ((Below.refl _ _).alloc (Nat.le_refl _) _).trans (t1.below (B := w.heap.size) (by simp) (fun k e => e.elim))
  clear PC t1 hl
  cases he : tk.toList.isEmpty
  · obtain ⟨w2, hrun, hc3, hg⟩ := ctx_store hc1 27 Try.underlying27 (by unfold maxLen; omega) TK tk (by decide)
    have bel2 : Below w.heap.size w w2 := bel.grown hg bel.size (fun k e => by injection e with e; omega)
    unfold TK at hrun
    go_wp2
    go_ret
    exact ⟨rfl, by simpa [withKey, withSz, he] using hc3, bel2⟩
  · go_wp2
    go_ret
    obtain ⟨D', ho', r'⟩ := hc1
    exact ⟨rfl, by simpa [withKey, withSz, he] using ⟨D', ho'.mono (Nat.le_succ _), r'⟩, bel⟩

/-- What the first k pairs make. -/
def Mk (kf vf : Nat → List UInt8) : Nat → MapF
  | 0 => fun _ => none
  | k + 1 => upd (Mk kf vf k) (kf k) (vf k)
def Zk (kf vf : Nat → List UInt8) : Nat → Nat
  | 0 => 0
  | k + 1 => bump (Mk kf vf k (kf k)).isSome (Zk kf vf k)
theorem Zk_le (kf vf : Nat → List UInt8) : ∀ k, Zk kf vf k ≤ k
  | 0 => Nat.le_refl _
  | k + 1 => by have := Zk_le kf vf k; unfold Zk bump; split <;> omega
/-- The strings' bytes, as the map has them. -/
def kd (p : Nat → ByteArray) (i : Nat) : List UInt8 := (p i).data.toList

set_option maxHeartbeats 1600000 in
theorem ofstrs_some (tk : ByteArray) (x : Addr) (n c c2 : Nat) (a2 : Option Addr) (p q : Nat → ByteArray) (w : World) (hn : n ≤ 131072) (hp : ∀ i, i < n → (p i).size ≤ 1048576) (hs : Strs w (some x) n p) (hs2 : Strs w a2 n q) :
    Calls Try.prog 10 #[.string tk, .slice (some x) n c, .slice a2 n c2] w fun e w' => (∃ b m, e = .returned (.map (some b)) ∧ CtxIs w' b m (withKey tk (Mk (kd p) (kd q) n)) (withSz tk (Mk (kd p) (kd q) n) (Zk (kd p) (kd q) n)) ∧ w.heap.size ≤ b) ∧ Below w.heap.size w w' := by
  have q22 : ∀ (w : World) (a : Option Addr) (n c : Nat), (binOp .neq 22 (.slice a n c) (.slice none 0 0)).run Try.prog w = .ok (.bool (!a.isNone)) w := fun w a n c => run_neq_slice_nil w 22 9 a n c Try.underlying22
  have hmk := mk26
  go_enter Try.func10, Try.ntmps10
  go_wp2
  clear q22 hmk
  go_loopw [8] (fun i wr => ∃ k : Nat, k ≤ n ∧ i = .int .i64 k ∧ CtxIs wr w.heap.size k (Mk (kd p) (kd q) k) (Zk (kd p) (kd q) k) ∧ Below w.heap.size w wr) (fun i _ => n - (intOf i).toNat)
  case atStart => exact ⟨0, Nat.zero_le _, rfl, ctx_made w, (Below.refl _ _).alloc (Nat.le_refl _) _⟩
  case round =>
    obtain ⟨k, hk, rfl, hc, bel⟩ := hrel
    by_cases hlt : k < n
    · obtain ⟨b, o, hx, hb, hcp⟩ := hs (by omega)
      obtain rfl : x = ⟨b, o, none⟩ := by injection hx
      obtain ⟨b2, o2, rfl, hb2, hcq⟩ := hs2 (by omega)
      have hck : wr.cell? ⟨b, o + k, none⟩ = some (.string (p k)) := (bel.cell (p := ⟨b, o + k, none⟩) hb).trans (hcp k hlt)
      have hcv : wr.cell? ⟨b2, o2 + k, none⟩ = some (.string (q k)) := (bel.cell (p := ⟨b2, o2 + k, none⟩) hb2).trans (hcq k hlt)
      have hc' : CtxIs wr.drew w.heap.size k (Mk (kd p) (kd q) k) (Zk (kd p) (kd q) k) := hc
      obtain ⟨w2, hrun, hc3, hg⟩ := ctx_store hc' 26 Try.underlying26 (by unfold maxLen; omega) (p k) (q k) (by have := hp k hlt; unfold maxLen; omega)
      have bel2 : Below w.heap.size w w2 := bel.drew.grown hg bel.size (fun k e => by injection e with e; omega)
      have i0 : (k : Int) < (n : Int) := by omega
      clear hs hs2 hcp hcq hx hp hc hc' bel hg
      go_wp2
      go_region
      all_goals
        go_wp2
        go_roundw
        case rel => exact ⟨k + 1, by omega, by go_num, hc3, bel2⟩
        case measure => simp [intOf]; omega
    · obtain rfl : k = n := by omega
      have hZ := Zk_le (kd p) (kd q) k
      have PN := newctx_some tk w.heap.size k _ _ wr hc (by omega)
      clear hs hs2 hp
      go_wp2_with fail
      refine PN.mono ?_
      rintro e w2 ⟨rfl, h1, h2, b2⟩
      go_wp2
      go_ret
      exact ⟨⟨_, _, rfl, h1, by have := bel.size; omega⟩, bel.trans (b2.mono bel.size)⟩

theorem ofstrs_none (tk : ByteArray) (c2 : Nat) (a2 : Option Addr) (w : World) :
    Calls Try.prog 10 #[.string tk, .slice none 0 0, .slice a2 0 c2] w fun e w' => (∃ b m, e = .returned (.map (some b)) ∧ CtxIs w' b m (withKey tk (fun _ => none)) (withSz tk (fun _ => none) 0) ∧ w.heap.size ≤ b) ∧ Below w.heap.size w w' := by
  have q22 : ∀ (w : World) (a : Option Addr) (n c : Nat), (binOp .neq 22 (.slice a n c) (.slice none 0 0)).run Try.prog w = .ok (.bool (!a.isNone)) w := fun w a n c => run_neq_slice_nil w 22 9 a n c Try.underlying22
  go_enter Try.func10, Try.ntmps10
  go_wp2_with fail
  refine (newctx_nil tk w).mono ?_
  rintro e w2 ⟨rfl, h1, b2⟩
  go_wp2
  go_ret
  exact ⟨⟨_, _, rfl, h1, Nat.le_refl _⟩, b2⟩
end Go.Proofs.Qxb6615042a
