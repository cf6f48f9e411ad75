/- FnMergeIsTheKeyOrderedUnionWithBroughtWinning: the row, proved (the frame after the kit's proof-skeleton). -/
import Derived.Test.Qxb6615042aLaw5
import Derived.Test.Qxb6615042aOpenF
namespace Go.Proofs.Qxb6615042a.fnMergeIs
open Go.ChangeShapes Go.WideShapes Go.ChangeAt Go.RowKit
set_option linter.unusedVariables false

theorem walk (a a2 : Option Addr) (n c n2 c2 : Nat) (p q : Nat → Src) (w : World) (h : IsFls w a n p) (h2 : IsFls w a2 n2 q) :
    Calls Try.prog 5 #[.slice a n c, .slice a2 n2 c2] w fun e w' => e = .returned (.bool true) ∧ Below w.heap.size w w' := by
  obtain ⟨hn, hp, hs, ho⟩ := h
  obtain ⟨hn2, hq, hs2, ho2⟩ := h2
  exact law5 a a2 n c n2 c2 p q w hn hn2 hp hq hs hs2 ho ho2

set_option maxRecDepth 100000 in
theorem lifted (os : Os) (started : os.Started) (H : Type) (enc : TypeId × Value → H) :
    ReturnsInHanded {} Try.checked os 5 .any (Rows.fnMergeIsTheKeyOrderedUnionWithBroughtWinningSpec.pre6 enc Try.prog Try.f5 Rows.fnMergeIsTheKeyOrderedUnionWithBroughtWinningRow.domain false) (Rows.fnMergeIsTheKeyOrderedUnionWithBroughtWinningSpec.post enc Try.prog Try.f5 false true false false) := by
  refine returnsInHanded_of_change (C := Try.checked) own started (by kernel_rfl) Try.func5
    (ChangeSpec.witness6 (enc := enc) (C := Try.checked) false ⟨#[], #[.slice none 0 0, .slice none 0 0], []⟩ 8 (by kernel_rfl) (by kernel_rfl) (by kernel_rfl) (by kernel_rfl)) ?_
  intro W base args ds gs before hval0 hW hcnd _
  have hval : ∀ (j : Nat) t v, Try.f5.params[j]? = some t → args[j]? = some v → Value.okWide Try.prog W .any base t v := hval0
  have hW' := hW
  obtain ⟨p, q, hA0, hV, rfl, hfz, hnd⟩ := hW
  have hA : DataW.TrodAll enc Try.prog W 0 (fun _ => true) true Try.f5.params.toList args.toList ds p := hA0
  rw [Try.params5] at hA hval
  obtain ⟨v1, vs1, d1, ds1, p1, q1, hargs, rfl, rfl, h1, r1⟩ := trodAll_cons hA
  obtain ⟨v2, vs2, d2, ds2, p2, q2, rfl, rfl, rfl, h2, r2⟩ := trodAll_cons r1
  obtain ⟨rfl, rfl, rfl⟩ := trodAll_nil r2
  obtain rfl : args = #[v1, v2] := by cases args; simp_all
  obtain ⟨rfl, rfl⟩ := trodVars_none hV
  obtain ⟨a1, len1, cap1, rfl⟩ := okWide_slice Try.underlying32 (hval 0 32 v1 rfl rfl)
  obtain ⟨a2, len2, cap2, rfl⟩ := okWide_slice Try.underlying32 (hval 1 32 v2 rfl rfl)
  have lt1 : ∀ x ∈ p1, x.block < W.heap.size := by obtain ⟨m, hm⟩ := h1; exact DataW.trod_lt m _ _ _ hm
  have lt2 : ∀ x ∈ p2, x.block < W.heap.size := by obtain ⟨m, hm⟩ := h2; exact DataW.trod_lt m _ _ _ hm
  obtain ⟨f1, w1⟩ := open_fls h1
  obtain ⟨f2, w2⟩ := open_fls h2
  clear hA0 hval0
  refine (walk a1 a2 len1 cap1 len2 cap2 f1 f2 W w1 w2).mono fun e W' ⟨he, bel⟩ => ?_
  subst he
  exact ⟨_, rfl, _, _, _, [], _, [], hW', trodAll_mk1 (shut_bool Try.underlying4 _), (trodAll_cons_mk (Below.trod laidOut (by kernel_rfl) (of_decide_eq_true (by kernel_rfl)) h1 bel lt1) (trodAll_cons_mk (Below.trod laidOut (by kernel_rfl) (of_decide_eq_true (by kernel_rfl)) h2 bel lt2) trodAll_mk0)), rfl, bel.frame _, fun h => by cases h⟩

theorem over : Rows.fnMergeIsTheKeyOrderedUnionWithBroughtWinningRow.holds Try.pinned (OpenSpec.ofChange Rows.fnMergeIsTheKeyOrderedUnionWithBroughtWinningSpec) :=
  OpenClaim.holds_of_wide 5 Try.f5 rfl rfl rfl rfl rfl rfl rfl ⟨rfl, rfl, rfl, rfl, rfl⟩ rfl rfl rfl rfl rfl (by kernel_rfl) Try.func5 (by kernel_rfl)
    (of_decide_eq_true (by kernel_rfl)) (by unfold Func.isWrapper; first | (rw [if_pos (by decide +kernel)]; kernel_rfl) | (rw [if_neg (by decide +kernel)]; exact ⟨rfl, rfl⟩))
    (fun os started H enc _ => lifted os started H enc)

theorem proved : Rows.FnMergeIsTheKeyOrderedUnionWithBroughtWinningSaid := over
#print axioms proved
end Go.Proofs.Qxb6615042a.fnMergeIs
