/-
  THE SHELL OF A PROOF OF 'Rows.FnHoldCountsDistinctIdsSaid' ('example.com/culvert/culvert/zzlaws_internal_pptp_b1.FnHoldCountsDistinctIds'), WRITTEN BY PROGRAM (proof-skeleton.mjs, third state) off the guide's own print for that function. Not trusted: the kernel checks it.
  ALL ELSE THAN THE WALK IS THE GUIDE's OWN WAY (howto/template/XProofs.lean; Derived/Test/ChunkProofs.lean for 'Below') at this function's number and types: leave it.
-/
import Derived.Test.Qxb6614995aRows
import Derived.WalkKit
import Derived.ProofKit
import Derived.OpenShut
import Derived.ShutString
import Derived.ChangeOld
import Derived.Below
import Derived.Test.Qxb6614995aHoldB
namespace Go.Proofs.Qxb6614995a.fnHoldCountsDistinctIds
open Go.ChangeShapes Go.WideShapes Go.ChangeAt Go.RowKit
open Go.ChangeMaps (open_string shut_string)
set_option linter.unusedVariables false

theorem own : ownKnob Try.prog.godebug = none := by kernel_rfl
theorem laidOut : laidOutB Try.prog = true := by kernel_rfl

/-- WHAT THE WALK IS TOLD OF A SLICE OF INTEGERS THAT CAME IN: it is nil; or it leads to a row of 'cap' cells, the numbers 'zs' (the first 'len' are its elements, the rest its spare room), each fitting its kind. -/
def IsRow (k : IntKind) (w : World) (a : Option Addr) (len cap : Nat) (zs : List Int) : Prop :=
  (a = none ∧ len = 0 ∧ cap = 0 ∧ zs = []) ∨
  ∃ x, a = some x ∧ len ≤ cap ∧ cap ≤ maxLen ∧ zs.length = cap ∧ (∀ i, i < zs.length → w.cell? (x.add i) = some (.int k (zs.getD i 0))) ∧ ∀ n ∈ zs, (Lit.int k n).wf = true

theorem wf16' {n : Int} (h : (Lit.int .u16 n).wf = true) : 0 ≤ n ∧ n ≤ 65535 := by
  have e1 : IntKind.u16.min = 0 := rfl
  have e2 : IntKind.u16.max = 65535 := rfl
  simpa only [Lit.wf, e1, e2, Bool.and_eq_true, decide_eq_true_eq] using h

/-! ### STEP 1: THE WALK: the Go text returns true, AND WRITES NOTHING THAT WAS THERE: 'Below w.heap.size w w'' (Derived/Below.lean: '.refl', '.alloc', '.drew', '.setCell' at a new block, '.trans'). Open each 'IsRow' by 'rcases' AHEAD of 'go_enter'; part every test ahead of the walk. -/
theorem walk (a0 : Int) (a1 : Bool) (a2 : Option Addr) (len2 cap2 : Nat) (z2 : List Int) (w : World) (w0 : (Lit.int .i64 a0).wf = true) (w2 : IsRow .u16 w a2 len2 cap2 z2) :
    Calls Try.prog 3 #[.int .i64 a0, .bool a1, .slice a2 len2 cap2] w fun e w' => e = .returned (.bool true) ∧ Below w.heap.size w w' := by
  have hm2 : len2 ≤ maxLen := by rcases w2 with ⟨_, rfl, _, _⟩ | ⟨x, _, hl, hm, _⟩ <;> first | (unfold maxLen; omega) | omega
  by_cases h : 65536 < len2
  · exact hold_early a2 len2 cap2 a0 a1 w hm2 h
  · have hv : ∀ i, 0 ≤ z2.getD i 0 ∧ z2.getD i 0 ≤ 65535 := by
      intro i
      rcases w2 with ⟨_, _, _, rfl⟩ | ⟨y, _, _, _, _, _, hw2⟩
      · simp
      · by_cases hi : i < z2.length
        · have e : z2.getD i 0 = z2[i] := by simp [List.getD, hi]
          rw [e]
          exact wf16' (hw2 _ (List.getElem_mem hi))
        · have e : z2.getD i 0 = 0 := by simp [List.getD, List.getElem?_eq_none (Nat.le_of_not_lt hi)]
          rw [e]; omega
    have hcv : 0 < len2 → ∃ b o, a2 = some ⟨b, o, none⟩ ∧ b < w.heap.size ∧ ∀ i, i < len2 → w.cell? ⟨b, o + i, none⟩ = some (.int .u16 (z2.getD i 0)) := by
      intro hp
      rcases w2 with ⟨_, rfl, _, _⟩ | ⟨y, rfl, l2, m2, e2, c2, _⟩
      · omega
      · obtain ⟨b, off, spot⟩ := y
        have h0c := c2 0 (by omega)
        have hspot : spot = none := by simpa [Addr.add] using World.cell?_spot h0c
        subst hspot
        have hb := World.block_lt_of_cell? _ _ h0c
        exact ⟨b, off, rfl, by simpa [Addr.add] using hb, fun i hi => by rw [← Go.WideShapes.add_plain]; exact c2 i (by omega)⟩
    cases a1
    · exact hold_core_false a0 a2 len2 cap2 (fun i => z2.getD i 0) w (by omega) hv hcv
    · exact hold_core_true a0 a2 len2 cap2 (fun i => z2.getD i 0) w (by omega) hv hcv

/-! ### THE ROW's STEP: WRITTEN OUT: LEAVE IT -/
set_option maxRecDepth 100000 in
theorem lifted (os : Os) (started : os.Started) (H : Type) (enc : TypeId × Value → H) :
    ReturnsInHanded {} Try.checked os 3 .any (Rows.fnHoldCountsDistinctIdsSpec.pre6 enc Try.prog Try.f3 Rows.fnHoldCountsDistinctIdsRow.domain false) (Rows.fnHoldCountsDistinctIdsSpec.post enc Try.prog Try.f3 false true false false) := by
  refine returnsInHanded_of_change (C := Try.checked) own started (by kernel_rfl) Try.func3
    (ChangeSpec.witness6 (enc := enc) (C := Try.checked) false ⟨#[], #[.int .i64 0, .bool false, .slice none 0 0], []⟩ 8 (by kernel_rfl) (by kernel_rfl) (by kernel_rfl) (by kernel_rfl)) ?_
  intro W base args ds gs before hval0 hW hcnd _
  have hval : ∀ (j : Nat) t v, Try.f3.params[j]? = some t → args[j]? = some v → Value.okWide Try.prog W .any base t v := hval0
  have hW' := hW
  obtain ⟨p, q, hA0, hV, rfl, hfz, hnd⟩ := hW
  have hA : DataW.TrodAll enc Try.prog W 0 (fun _ => true) true Try.f3.params.toList args.toList ds p := hA0
  rw [Try.params3] at hA hval
  obtain ⟨v0, vs0, d0, ds0, p0, q0, hargs, rfl, rfl, h0, r0⟩ := trodAll_cons hA
  obtain ⟨v1, vs1, d1, ds1, p1, q1, rfl, rfl, rfl, h1, r1⟩ := trodAll_cons r0
  obtain ⟨v2, vs2, d2, ds2, p2, q2, rfl, rfl, rfl, h2, r2⟩ := trodAll_cons r1
  obtain ⟨rfl, rfl, rfl⟩ := trodAll_nil r2
  obtain rfl : args = #[v0, v1, v2] := by cases args; simp_all
  obtain ⟨rfl, rfl⟩ := trodVars_none hV
  obtain ⟨a0, rfl, rfl, rfl, w0⟩ := open_int Try.underlying3 (hval 0 3 v0 rfl rfl) h0
  obtain ⟨a1, rfl, rfl, rfl⟩ := open_bool Try.underlying4 (hval 1 4 v1 rfl rfl) h1
  obtain ⟨a2, len2, cap2, rfl⟩ := okWide_slice Try.underlying22 (hval 2 22 v2 rfl rfl)
  have k2 := h2
  have lt2 : ∀ x ∈ p2, x.block < W.heap.size := by obtain ⟨m, hm⟩ := k2; exact DataW.trod_lt m _ _ _ hm
  obtain ⟨z2, w2⟩ : ∃ zs, IsRow .u16 W a2 len2 cap2 zs := by
    obtain ⟨fuel, hf⟩ := h2
    rcases open_ints Try.underlying22 Try.underlying27 (by kernel_rfl) hf with ⟨hcs, _⟩ | ⟨x, l, c, zs, hcs, _, hl, hm, hz, _, hcell, hwz⟩
    · simp [Value.cells] at hcs
      obtain ⟨rfl, rfl, rfl⟩ := hcs
      exact ⟨[], .inl ⟨rfl, rfl, rfl, rfl⟩⟩
    · simp [Value.cells] at hcs
      obtain ⟨rfl, rfl, rfl⟩ := hcs
      exact ⟨zs, .inr ⟨_, rfl, hl, hm, by simpa using hz, hcell, hwz⟩⟩
  clear hA0 hval0
  refine (walk a0 a1 a2 len2 cap2 z2 W w0 w2).mono fun e W' ⟨he, bel⟩ => ?_
  subst he
  exact ⟨_, rfl, _, _, _, [], _, [], hW', trodAll_mk1 (shut_bool Try.underlying4 _), (trodAll_cons_mk (shut_int Try.underlying3 w0) (trodAll_cons_mk (shut_bool Try.underlying4 _) (trodAll_cons_mk (Below.trod laidOut (by kernel_rfl) (of_decide_eq_true (by kernel_rfl)) k2 bel lt2) trodAll_mk0))), rfl, bel.frame _, fun h => by cases h⟩

theorem over : Rows.fnHoldCountsDistinctIdsRow.holds Try.pinned (OpenSpec.ofChange Rows.fnHoldCountsDistinctIdsSpec) :=
  OpenClaim.holds_of_wide 3 Try.f3 rfl rfl rfl rfl rfl rfl rfl ⟨rfl, rfl, rfl, rfl, rfl⟩ rfl rfl rfl rfl rfl (by kernel_rfl) Try.func3 (by kernel_rfl)
    (of_decide_eq_true (by kernel_rfl)) (by unfold Func.isWrapper; first | (rw [if_pos (by decide +kernel)]; kernel_rfl) | (rw [if_neg (by decide +kernel)]; exact ⟨rfl, rfl⟩))
    (fun os started H enc _ => lifted os started H enc)

/-- ████ THE STATEMENT ████ -/
theorem proved : Rows.FnHoldCountsDistinctIdsSaid := over
#print axioms proved
end Go.Proofs.Qxb6614995a.fnHoldCountsDistinctIds
