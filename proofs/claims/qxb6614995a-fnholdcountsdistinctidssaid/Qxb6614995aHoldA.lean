/- CallIDs: contracts of NewCallIDs, NewHeldCallIDs, hold, Owner, and the thin exports. -/
import Derived.Test.Qxb6614995aLocks
import Derived.Test.Qxb6614995aBase
import Derived.Conc.MuLone
import Derived.Maps.OwnSet
import Derived.WalkKit
import Derived.WalkSpells
import Derived.WalkLawsBesides
import Derived.Deep.OwnRows
namespace Go.Proofs.Qxb6614995a
open Go.RowKit Go.Maps
open Go.MuLone

theorem law27 : Keyed Try.prog 27 := int_keyed Try.underlying27
theorem zero4 (w : World) : (zeroValue 4).run Try.prog w = .ok (.bool false) w := by kernel_rfl
theorem zero31 (w : World) : (zeroValue 31).run Try.prog w = .ok (.pointer none) w := by kernel_rfl

theorem Turned.of_grown {w w' : World} {b : Nat} (h : w.grownBy w' (some b)) : Turned (fun k => k = b) w w' :=
  ⟨h.os, h.tape, h.output, h.size, fun k hk hS => h.block k hk (fun e => hS (by injection e))⟩

/-- An element that reads as a bool's datum IS that bool. -/
theorem plainElem_bool_inv {H : Type} {P : Program} {e : TypeId} (he : P.underlying e = some .bool) {v : Value} {z : DataW H × List MemPlace} (h : plainElem P e v = some z) : ∃ x, v = .bool x ∧ z = (.lit (.bool x), []) := by
  unfold plainElem at h
  rw [he] at h
  cases v <;> simp at h
  subst h
  exact ⟨_, rfl, rfl⟩

/-- How a nil pointer reads, and nothing else does. -/
def nilElem : Value → Option (DataW Unit × List MemPlace)
  | .pointer none => some (.nil, [])
  | _ => none

/-- THE MAP 'held': at most n entries, all true; S: which keys are there; cnt: how many. -/
def HeldIs (w : World) (hm n : Nat) (S : Int → Bool) (cnt : Nat) : Prop :=
  ∃ D : DataW Unit, w.ownsMap Try.prog 27 (plainElem Try.prog 4) hm n D ∧ (∀ id, D.atKey (.int .u16 id) (.lit (.bool false)) = .lit (.bool (S id))) ∧ (∀ id, Maps.has D (.int .u16 id) = S id) ∧ Maps.size D = cnt

/-- THE MAP 'ids': nothing in it. -/
def IdsIs (w : World) (im : Nat) : Prop := w.ownsMap Try.prog 27 nilElem im 0 (.map [])

theorem Turned.held {S : Nat → Prop} {w w' : World} (h : Turned S w w') {hm n cnt : Nat} {T : Int → Bool} (hh : HeldIs w hm n T cnt) (hS : ¬ S hm) : HeldIs w' hm n T cnt := by
  obtain ⟨D, ho, r⟩ := hh
  have hlt := ho.lt
  obtain ⟨es, clock, hb, q⟩ := ho
  exact ⟨D, ⟨es, clock, (h.block hm hlt hS).trans hb, q⟩, r⟩
theorem Turned.ids {S : Nat → Prop} {w w' : World} (h : Turned S w w') {im : Nat} (hh : IdsIs w im) (hS : ¬ S im) : IdsIs w' im := by
  have hlt := World.ownsMap.lt hh
  obtain ⟨es, clock, hb, q⟩ := hh
  exact ⟨es, clock, (h.block im hlt hS).trans hb, q⟩

/-- The struct's six cells: the lock's two, the limit, 'holds', the two maps. -/
def ccell (lim : Int) (h : Bool) (im hm : Nat) (i : Nat) : Value :=
  if i = 0 then .int .i32 0 else if i = 1 then .int .u32 0 else if i = 2 then .int .i64 lim else if i = 3 then .bool h else if i = 4 then .map (some im) else .map (some hm)

theorem held_made (w : World) : HeldIs (w.alloc (.map #[] 0)) w.heap.size 0 (fun _ => false) 0 :=
  ⟨.map [], World.ownsMap_made w _ _ _, fun _ => rfl, fun _ => rfl, rfl⟩

/-- One more, unless it was there. -/
def bump (b : Bool) (c : Nat) : Nat := if b then c else c + 1

theorem held_put {w' : World} {hm n cnt : Nat} {S : Int → Bool} {D : DataW Unit} (id : Int) (hI : IsMap D) (hT : Tidy D) (hat : ∀ id, D.atKey (.int .u16 id) (.lit (.bool false)) = .lit (.bool (S id))) (hhas : ∀ id, Maps.has D (.int .u16 id) = S id) (hsz : Maps.size D = cnt)
    (ho : w'.ownsMap Try.prog 27 (plainElem Try.prog 4) hm n (D.put (.int .u16 id) (.lit (.bool true)))) : HeldIs w' hm n (fun j => j == id || S j) (bump (S id) cnt) := by
  refine ⟨_, ho, fun j => ?_, fun j => ?_, ?_⟩
  · by_cases e : j = id
    · subst e; rw [atKey_put_same hI (show WideAt.IsKeyLit (.int .u16 j) from trivial)]; simp
    · rw [atKey_put_other (fun h => e (by injection h)), hat]; simp [e]
  · by_cases e : j = id
    · subst e; rw [has_put_same hI (show WideAt.IsKeyLit (.int .u16 j) from trivial)]; simp
    · rw [has_put_other (fun h => e (by injection h)), hhas]; simp [e]
  · rw [size_put hT, hhas, hsz]; rfl

/-- The struct's cells, laid. -/
theorem crow (w : World) (lim : Int) (h : Bool) (im hm : Nat) :
    (w.alloc (.cells #[.int .i32 0, .int .u32 0, .int .i64 lim, .bool h, .map (some im), .map (some hm)] 71)).rowIs w.heap.size 71 6 (ccell lim h im hm) := by
  refine World.rowIs_alloc w #[.int .i32 0, .int .u32 0, .int .i64 lim, .bool h, .map (some im), .map (some hm)] 71 (ccell lim h im hm) (fun i hi => ?_)
  have hi' : i < 6 := hi
  match i, hi' with
  | 0, _ => rfl
  | 1, _ => rfl
  | 2, _ => rfl
  | 3, _ => rfl
  | 4, _ => rfl
  | 5, _ => rfl

theorem new_world (w : World) (l : Int) : 
    (∃ l', (((w.alloc (.map #[] 0)).alloc (.map #[] 0)).alloc (.cells #[.int .i32 0, .int .u32 0, .int .i64 l, .bool false, .map (some w.heap.size), .map (some (w.heap.size + 1))] 71)).rowIs (w.heap.size + 2) 71 6 (ccell l' false w.heap.size (w.heap.size + 1))) ∧
    IdsIs (((w.alloc (.map #[] 0)).alloc (.map #[] 0)).alloc (.cells #[.int .i32 0, .int .u32 0, .int .i64 l, .bool false, .map (some w.heap.size), .map (some (w.heap.size + 1))] 71)) w.heap.size ∧
    HeldIs (((w.alloc (.map #[] 0)).alloc (.map #[] 0)).alloc (.cells #[.int .i32 0, .int .u32 0, .int .i64 l, .bool false, .map (some w.heap.size), .map (some (w.heap.size + 1))] 71)) (w.heap.size + 1) 0 (fun _ => false) 0 ∧
    Below w.heap.size w (((w.alloc (.map #[] 0)).alloc (.map #[] 0)).alloc (.cells #[.int .i32 0, .int .u32 0, .int .i64 l, .bool false, .map (some w.heap.size), .map (some (w.heap.size + 1))] 71)) := by
  have e1 : (w.alloc (.map #[] 0)).heap.size = w.heap.size + 1 := by simp
  have e2 : ((w.alloc (.map #[] 0)).alloc (.map #[] 0)).heap.size = w.heap.size + 2 := by simp
  have h1 : IdsIs (w.alloc (.map #[] 0)) w.heap.size := World.ownsMap_made w _ _ _
  have h2 := held_made (w.alloc (.map #[] 0))
  rw [e1] at h2
  refine ⟨⟨l, ?_⟩, ?_, ?_, (((Below.refl _ _).alloc (Nat.le_refl _) _).alloc (by omega) _).alloc (by omega) _⟩
  · have h3 := crow ((w.alloc (.map #[] 0)).alloc (.map #[] 0)) l false w.heap.size (w.heap.size + 1)
    rw [e2] at h3
    exact h3
  · exact World.ownsMap.alloc (World.ownsMap.alloc h1 _) _
  · obtain ⟨D, ho, r⟩ := h2
    exact ⟨D, ho.alloc _, r⟩

theorem new_any (lim : Int) (w : World) :
    Calls Try.prog 9 #[.int .i64 lim] w fun e w' => e = .returned (.pointer (some ⟨w.heap.size + 2, 0, none⟩)) ∧
      (∃ l, w'.rowIs (w.heap.size + 2) 71 6 (ccell l false w.heap.size (w.heap.size + 1))) ∧ IdsIs w' w.heap.size ∧ HeldIs w' (w.heap.size + 1) 0 (fun _ => false) 0 ∧ Below w.heap.size w w' := by
  have hmm := @run_makeMap Try.prog
  go_enter Try.func9, Try.ntmps9
  go_wp2
  all_goals
    go_ret
    exact ⟨rfl, new_world w _⟩

theorem newHeld_any (lim : Int) (w : World) :
    Calls Try.prog 8 #[.int .i64 lim] w fun e w' => e = .returned (.pointer (some ⟨w.heap.size + 2, 0, none⟩)) ∧
      (∃ l, w'.rowIs (w.heap.size + 2) 71 6 (ccell l true w.heap.size (w.heap.size + 1))) ∧ IdsIs w' w.heap.size ∧ HeldIs w' (w.heap.size + 1) 0 (fun _ => false) 0 ∧ Below w.heap.size w w' := by
  have P := new_any lim w
  go_enter Try.func8, Try.ntmps8
  go_wp2_with fail
  refine P.mono ?_
  rintro e w1 ⟨rfl, ⟨l, hr⟩, hi, hh, ht⟩
  clear P
  have c3 := hr.cell (i := 3) (by omega)
  have f3 := hr.frozen 3
  go_wp2
  go_ret
  have t2 : Turned (fun k => k = w.heap.size + 2) w1 (w1.setCell ⟨w.heap.size + 2, 3, none⟩ (.bool true)) := (Turned.refl _ _).setCell (S := fun k => k = w.heap.size + 2) (p := ⟨w.heap.size + 2, 3, none⟩) rfl _
  refine ⟨rfl, ⟨l, ?_⟩, t2.ids hi (by omega), t2.held hh (by omega), ht.setCell (p := ⟨w.heap.size + 2, 3, none⟩) (by simp) _⟩
  · refine (hr.set 3 _).congr (fun i hi => ?_)
    by_cases e : i = 3
    · subst e; simp [ccell]
    · simp [ccell, e]


theorem ccell_read {w : World} {sb : Nat} {lim : Int} {h : Bool} {im hm : Nat} (hr : w.rowIs sb 71 6 (ccell lim h im hm)) :
    w.cell? ⟨sb, 0, none⟩ = some (.int .i32 0) ∧ w.cell? ⟨sb, 3, none⟩ = some (.bool h) ∧ w.cell? ⟨sb, 4, none⟩ = some (.map (some im)) ∧ w.cell? ⟨sb, 5, none⟩ = some (.map (some hm)) ∧ w.frozen? ⟨sb, 0, none⟩ = false :=
  ⟨hr.cell (i := 0) (by omega), hr.cell (i := 3) (by omega), hr.cell (i := 4) (by omega), hr.cell (i := 5) (by omega), hr.frozen 0⟩

/-- The row behind the lock taken and let go. -/
theorem crow_back {w : World} {sb : Nat} {lim : Int} {h : Bool} {im hm : Nat} (hr : (w.setCell ⟨sb, 0, none⟩ (.int .i32 0)).rowIs sb 71 6 (fun j => if j = 0 then .int .i32 0 else ccell lim h im hm j)) : (w.setCell ⟨sb, 0, none⟩ (.int .i32 0)).rowIs sb 71 6 (ccell lim h im hm) :=
  hr.congr (fun i _ => by by_cases e : i = 0 <;> simp [e, ccell])

set_option maxHeartbeats 1600000 in
set_option maxRecDepth 100000 in
/-- hold, the set made with NewHeldCallIDs -/
theorem hold_true (sb im hm n cnt : Nat) (lim id : Int) (S : Int → Bool) (w : World) (h0 : 0 ≤ id) (h1 : id ≤ 65535) (hn : n < maxLen) (hsb : hm ≠ sb)
    (hr : w.rowIs sb 71 6 (ccell lim true im hm)) (hh : HeldIs w hm n S cnt) :
    Calls Try.prog 32 #[.pointer (some ⟨sb, 0, none⟩), .int .u16 id] w fun e w' => e = .returned (.tuple #[]) ∧
      w'.rowIs sb 71 6 (ccell lim true im hm) ∧ HeldIs w' hm (n + 1) (fun j => j == id || S j) (bump (S id) cnt) ∧ Turned (fun k => k = sb ∨ k = hm) w w' := by
  obtain ⟨c0, c3, c4, c5, f0⟩ := ccell_read hr
  obtain ⟨D, hown, hat, hhas, hsz⟩ := hh
  have hI := hown.isMap
  have hT := hown.tidy law27
  have hwx : (Lit.int .u16 id).wf = true := by
    have e1 : IntKind.u16.min = 0 := rfl
    have e2 : IntKind.u16.max = 65535 := rfl
    simp only [Lit.wf, e1, e2, Bool.and_eq_true, decide_eq_true_eq]; omega
  have hkey := keyOf_int_mk Try.underlying27 hwx
  have hown1 := hown.setCell (a := ⟨sb, 0, none⟩) hsb (.int .i32 1)
  go_enter_defers Try.func32, Try.ntmps32
  go_wp2_with (first
    | (go_at_call 33; refine (lock_free muLib ⟨sb, 0, none⟩ _ c0 f0).mono ?_; rintro e w' ⟨rfl, rfl⟩)
    | (at_mapUpdate; refine wpList_mapUpdate_in _ rfl _ _ _ 69 rfl 27 4 law27 Try.underlying69 _ hm n D rfl hown1 hn _ _ _ rfl rfl hkey _ [] (plainElem_bool Try.underlying4 true) ?_; intro w1 hown2 hturn1))
  have c0' : (w.setCell ⟨sb, 0, none⟩ (.int .i32 1)).cell? ⟨sb, 0, none⟩ = some (.int .i32 1) := World.cell?_setCell_same w ⟨sb, 0, none⟩ (.int .i32 1) c0
  have kc : w1.cell? ⟨sb, 0, none⟩ = (w.setCell ⟨sb, 0, none⟩ (.int .i32 1)).cell? ⟨sb, 0, none⟩ := by
    have hblk := hturn1.grown.block sb (World.block_lt_of_cell? _ _ c0') (fun e => hsb (Option.some.inj e).symm)
    simp only [World.cell?, hblk]
  refine leaves_cons (f := 34) (args := #[.pointer (some ⟨sb, 0, none⟩)]) (by simp) (by simp [go_sem]) ?_
  refine (unlock_deferred muLib ⟨sb, 0, none⟩ .returning _ (kc.trans c0') ((hturn1.frozen _).trans (by simp [f0]))).mono ?_
  rintro e u' w'' ⟨rfl, rfl, rfl⟩
  have t1 : Turned (fun k => k = sb ∨ k = hm) w (w.setCell ⟨sb, 0, none⟩ (.int .i32 1)) := (Turned.refl _ _).setCell (S := fun k => k = sb ∨ k = hm) (p := ⟨sb, 0, none⟩) (Or.inl rfl) _
  have t2 : Turned (fun k => k = hm) (w.setCell ⟨sb, 0, none⟩ (.int .i32 1)) w1 := Turned.of_grown hturn1.grown
  have t3 := (t1.trans (t2.mono (T := fun k => k = sb ∨ k = hm) (fun k _ e => Or.inr e))).setCell (p := ⟨sb, 0, none⟩) (Or.inl rfl) (.int .i32 0)
  refine ⟨_, results_none rfl _ _ _, rfl, crow_back ?_, held_put id hI hT hat hhas hsz (hown2.setCell (a := ⟨sb, 0, none⟩) hsb _), t3⟩
  exact ((t2.row (hr.set 0 _) (fun e => hsb e.symm)).set 0 _).congr (fun i _ => by by_cases e : i = 0 <;> simp [e])

set_option maxHeartbeats 1600000 in
/-- hold, a plain set: nothing is held -/
theorem hold_false (sb im hm : Nat) (lim id : Int) (w : World)
    (hr : w.rowIs sb 71 6 (ccell lim false im hm)) :
    Calls Try.prog 32 #[.pointer (some ⟨sb, 0, none⟩), .int .u16 id] w fun e w' => e = .returned (.tuple #[]) ∧
      w'.rowIs sb 71 6 (ccell lim false im hm) ∧ Turned (fun k => k = sb) w w' := by
  obtain ⟨c0, c3, c4, c5, f0⟩ := ccell_read hr
  go_enter_defers Try.func32, Try.ntmps32
  go_wp2_with (go_at_call 33; refine (lock_free muLib ⟨sb, 0, none⟩ _ c0 f0).mono ?_; rintro e w' ⟨rfl, rfl⟩)
  have c0' : (w.setCell ⟨sb, 0, none⟩ (.int .i32 1)).cell? ⟨sb, 0, none⟩ = some (.int .i32 1) := World.cell?_setCell_same w ⟨sb, 0, none⟩ (.int .i32 1) c0
  refine leaves_cons (f := 34) (args := #[.pointer (some ⟨sb, 0, none⟩)]) (by simp) (by simp [go_sem]) ?_
  refine (unlock_deferred muLib ⟨sb, 0, none⟩ .returning _ c0' (by simp [f0])).mono ?_
  rintro e u' w'' ⟨rfl, rfl, rfl⟩
  refine ⟨_, results_none rfl _ _ _, rfl, crow_back ?_, ((Turned.refl _ _).setCell (S := fun k => k = sb) (p := ⟨sb, 0, none⟩) rfl _).setCell (p := ⟨sb, 0, none⟩) rfl _⟩
  exact ((hr.set 0 _).set 0 _).congr (fun i _ => by by_cases e : i = 0 <;> simp [e])


theorem wf_u16 {id : Int} (h0 : 0 ≤ id) (h1 : id ≤ 65535) : (Lit.int .u16 id).wf = true := by
  have e1 : IntKind.u16.min = 0 := rfl
  have e2 : IntKind.u16.max = 65535 := rfl
  simp only [Lit.wf, e1, e2, Bool.and_eq_true, decide_eq_true_eq]; omega

theorem look_ids {w : World} {im : Nat} (h : IdsIs w im) {id : Int} (h0 : 0 ≤ id) (h1 : id ≤ 65535) : (Instr.lookup 68 (.map (some im)) (.int .u16 id) false).run Try.prog w = .ok (.pointer none) w := by
  obtain ⟨v, ps, hrun, hv⟩ := World.ownsMap.lookup h law27 Try.underlying68 (zero31 w) (zd := .nil) (zp := []) rfl (keyOf_int_mk Try.underlying27 (wf_u16 h0 h1))
  have : v = .pointer none := by
    unfold nilElem at hv
    split at hv
    · rfl
    · cases hv
  rw [this] at hrun
  exact hrun

theorem look_held {w : World} {hm n cnt : Nat} {S : Int → Bool} (h : HeldIs w hm n S cnt) {id : Int} (h0 : 0 ≤ id) (h1 : id ≤ 65535) : (Instr.lookup 69 (.map (some hm)) (.int .u16 id) false).run Try.prog w = .ok (.bool (S id)) w := by
  obtain ⟨D, ho, hat, _⟩ := h
  obtain ⟨v, ps, hrun, hv⟩ := ho.lookup law27 Try.underlying69 (zero4 w) (plainElem_bool Try.underlying4 false) (keyOf_int_mk Try.underlying27 (wf_u16 h0 h1))
  obtain ⟨x, rfl, hx⟩ := plainElem_bool_inv Try.underlying4 hv
  rw [hat id] at hx
  simp only [Prod.mk.injEq, DataW.lit.injEq, Lit.bool.injEq] at hx
  rw [← hx.1] at hrun
  exact hrun

theorem len_held {w : World} {hm n cnt : Nat} {S : Int → Bool} (h : HeldIs w hm n S cnt) (ty : TypeId) : (Builtin.len_ #[69] ty #[.map (some hm)]).run Try.prog w = .ok (.int .i64 cnt) w := by
  obtain ⟨D, ho, _, _, rfl⟩ := h
  exact ho.len Try.underlying69 ty

set_option maxHeartbeats 1600000 in
theorem owner_any (sb im hm : Nat) (b : Bool) (lim id : Int) (w : World) (h0 : 0 ≤ id) (h1 : id ≤ 65535) (hsb : im ≠ sb)
    (hr : w.rowIs sb 71 6 (ccell lim b im hm)) (hi : IdsIs w im) :
    Calls Try.prog 13 #[.pointer (some ⟨sb, 0, none⟩), .int .u16 id] w fun e w' => e = .returned (.pointer none) ∧
      w'.rowIs sb 71 6 (ccell lim b im hm) ∧ Turned (fun k => k = sb) w w' := by
  obtain ⟨c0, c3, c4, c5, f0⟩ := ccell_read hr
  have hi1 : IdsIs (w.setCell ⟨sb, 0, none⟩ (.int .i32 1)) im := World.ownsMap.setCell hi hsb _
  have hl := look_ids hi1 h0 h1
  go_enter_defers Try.func13, Try.ntmps13
  go_wp2_with (go_at_call 33; refine (lock_free muLib ⟨sb, 0, none⟩ _ c0 f0).mono ?_; rintro e w' ⟨rfl, rfl⟩)
  have c0' : (w.setCell ⟨sb, 0, none⟩ (.int .i32 1)).cell? ⟨sb, 0, none⟩ = some (.int .i32 1) := World.cell?_setCell_same w ⟨sb, 0, none⟩ (.int .i32 1) c0
  refine leaves_cons (f := 34) (args := #[.pointer (some ⟨sb, 0, none⟩)]) (by simp) (by simp [go_sem]) ?_
  refine (unlock_deferred muLib ⟨sb, 0, none⟩ .returning _ c0' (by simp [f0])).mono ?_
  rintro e u' w'' ⟨rfl, rfl, rfl⟩
  refine ⟨_, results_tmp rfl _ _ _, rfl, crow_back ?_, ((Turned.refl _ _).setCell (S := fun k => k = sb) (p := ⟨sb, 0, none⟩) rfl _).setCell (p := ⟨sb, 0, none⟩) rfl _⟩
  exact ((hr.set 0 _).set 0 _).congr (fun i _ => by by_cases e : i = 0 <;> simp [e])

theorem held_any (sb im hm n cnt : Nat) (b : Bool) (lim id : Int) (S : Int → Bool) (w : World) (h0 : 0 ≤ id) (h1 : id ≤ 65535)
    (hr : w.rowIs sb 71 6 (ccell lim b im hm)) (hh : HeldIs w hm n S cnt) :
    Calls Try.prog 12 #[.pointer (some ⟨sb, 0, none⟩), .int .u16 id] w fun e w' => e = .returned (.bool (S id)) ∧ w = w' := by
  obtain ⟨c0, c3, c4, c5, f0⟩ := ccell_read hr
  have hl := look_held hh h0 h1
  go_enter Try.func12, Try.ntmps12
  go_wp2
  go_ret
  exact ⟨rfl, rfl⟩

theorem heldLen_any (sb im hm n cnt : Nat) (b : Bool) (lim : Int) (S : Int → Bool) (w : World)
    (hr : w.rowIs sb 71 6 (ccell lim b im hm)) (hh : HeldIs w hm n S cnt) :
    Calls Try.prog 11 #[.pointer (some ⟨sb, 0, none⟩)] w fun e w' => e = .returned (.int .i64 cnt) ∧ w = w' := by
  obtain ⟨c0, c3, c4, c5, f0⟩ := ccell_read hr
  have hl := len_held hh
  go_enter Try.func11, Try.ntmps11
  go_wp2
  go_ret
  exact ⟨rfl, rfl⟩

/-- What is held behind one more ID. -/
def held1 (b : Bool) (S : Int → Bool) (id : Int) : Int → Bool := fun j => b && (j == id || S j)
def cnt1 (b : Bool) (S : Int → Bool) (cnt : Nat) (id : Int) : Nat := if b then bump (S id) cnt else cnt

/-- ZZhold, both kinds of set. -/
theorem zzhold_any (sb im hm n cnt : Nat) (b : Bool) (lim id : Int) (S : Int → Bool) (w : World) (h0 : 0 ≤ id) (h1 : id ≤ 65535) (hn : n < maxLen) (hsb : hm ≠ sb) (hb : b = false → ∀ j, S j = false)
    (hr : w.rowIs sb 71 6 (ccell lim b im hm)) (hh : HeldIs w hm n S cnt) :
    Calls Try.prog 10 #[.pointer (some ⟨sb, 0, none⟩), .int .u16 id] w fun e w' => e = .returned (.tuple #[]) ∧
      w'.rowIs sb 71 6 (ccell lim b im hm) ∧ HeldIs w' hm (n + 1) (held1 b S id) (cnt1 b S cnt id) ∧ Turned (fun k => k = sb ∨ k = hm) w w' := by
  have P : Calls Try.prog 32 #[.pointer (some ⟨sb, 0, none⟩), .int .u16 id] w fun e w' => e = .returned (.tuple #[]) ∧
      w'.rowIs sb 71 6 (ccell lim b im hm) ∧ HeldIs w' hm (n + 1) (held1 b S id) (cnt1 b S cnt id) ∧ Turned (fun k => k = sb ∨ k = hm) w w' := by
    cases b
    · refine (hold_false sb im hm lim id w hr).mono ?_
      rintro e w' ⟨he, r1, t1⟩
      have e1 : held1 false S id = S := by funext j; simp [held1, hb rfl j]
      have e2 : cnt1 false S cnt id = cnt := rfl
      rw [e1, e2]
      obtain ⟨D, ho, r⟩ := t1.held hh (fun e => hsb e)
      exact ⟨he, r1, ⟨D, ho.mono (Nat.le_succ n), r⟩, t1.mono (fun k _ h => Or.inl h)⟩
    · refine (hold_true sb im hm n cnt lim id S w h0 h1 hn hsb hr hh).mono ?_
      rintro e w' ⟨he, r1, h1, t1⟩
      have e1 : held1 true S id = fun j => j == id || S j := by funext j; simp [held1]
      rw [e1]
      exact ⟨he, r1, h1, t1⟩
  go_enter Try.func10, Try.ntmps10
  go_wp2_with (go_at_call 32; refine P.mono ?_; rintro e w' ⟨rfl, r1, r2, r3⟩)
  go_end0
  exact ⟨rfl, r1, r2, r3⟩

end Go.Proofs.Qxb6614995a
