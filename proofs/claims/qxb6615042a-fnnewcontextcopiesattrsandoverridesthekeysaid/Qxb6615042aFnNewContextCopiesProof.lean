/- FnNewContextCopiesAttrsAndOverridesTheKey: the row, proved (the frame after the kit's proof-skeleton). -/
import Derived.Test.Qxb6615042aCopies
import Derived.Test.Qxb6615042aOpen
namespace Go.Proofs.Qxb6615042a.fnNewContextCopies
open Go.ChangeShapes Go.WideShapes Go.ChangeAt Go.RowKit
open Go.ChangeMaps (open_string shut_string)
set_option linter.unusedVariables false

theorem walk (tk ov : ByteArray) (a a2 : Option Addr) (n c n2 c2 : Nat) (p q : Nat → ByteArray) (w : World) (htk : tk.size ≤ maxLen) (hov : ov.size ≤ maxLen) (h : IsStrs w a n c p) (h2 : IsStrs w a2 n2 c2 q) :
    Calls Try.prog 4 #[.string tk, .string ov, .slice a n c, .slice a2 n2 c2] w fun e w' => e = .returned (.bool true) ∧ Below w.heap.size w w' := by
  obtain ⟨hn, hp, hs, hz⟩ := h
  obtain ⟨hn2, hq, hs2, hz2⟩ := h2
  cases a with
  | none =>
    cases a2 with
    | none => exact law4_zz tk ov n c n2 c2 p q w htk hov hn hn2 hp hq hs hs2 (hz rfl).1 (hz rfl).2 (hz2 rfl).1
    | some y => exact law4_zs tk ov y n c n2 c2 p q w htk hov hn hn2 hp hq hs hs2 (hz rfl).1 (hz rfl).2
  | some x =>
    cases a2 with
    | none => exact law4_sz tk ov x n c n2 c2 p q w htk hov hn hn2 hp hq hs hs2 (hz2 rfl).1
    | some y => exact law4_ss tk ov x y n c n2 c2 p q w htk hov hn hn2 hp hq hs hs2

set_option maxRecDepth 100000 in
theorem lifted (os : Os) (started : os.Started) (H : Type) (enc : TypeId × Value → H) :
    ReturnsInHanded {} Try.checked os 4 .any (Rows.fnNewContextCopiesAttrsAndOverridesTheKeySpec.pre6 enc Try.prog Try.f4 Rows.fnNewContextCopiesAttrsAndOverridesTheKeyRow.domain false) (Rows.fnNewContextCopiesAttrsAndOverridesTheKeySpec.post enc Try.prog Try.f4 false true false false) := by
  refine returnsInHanded_of_change (C := Try.checked) own started (by kernel_rfl) Try.func4
    (ChangeSpec.witness6 (enc := enc) (C := Try.checked) false ⟨#[], #[.string ⟨#[]⟩, .string ⟨#[]⟩, .slice none 0 0, .slice none 0 0], []⟩ 8 (by kernel_rfl) (by kernel_rfl) (by kernel_rfl) (by kernel_rfl)) ?_
  intro W base args ds gs before hval0 hW hcnd _
  have hval : ∀ (j : Nat) t v, Try.f4.params[j]? = some t → args[j]? = some v → Value.okWide Try.prog W .any base t v := hval0
  have hW' := hW
  obtain ⟨p, q, hA0, hV, rfl, hfz, hnd⟩ := hW
  have hA : DataW.TrodAll enc Try.prog W 0 (fun _ => true) true Try.f4.params.toList args.toList ds p := hA0
  rw [Try.params4] at hA hval
  obtain ⟨v0, vs0, d0, ds0, p0, q0, hargs, rfl, rfl, h0, r0⟩ := trodAll_cons hA
  obtain ⟨v1, vs1, d1, ds1, p1, q1, rfl, rfl, rfl, h1, r1⟩ := trodAll_cons r0
  obtain ⟨v2, vs2, d2, ds2, p2, q2, rfl, rfl, rfl, h2, r2⟩ := trodAll_cons r1
  obtain ⟨v3, vs3, d3, ds3, p3, q3, rfl, rfl, rfl, h3, r3⟩ := trodAll_cons r2
  obtain ⟨rfl, rfl, rfl⟩ := trodAll_nil r3
  obtain rfl : args = #[v0, v1, v2, v3] := by cases args; simp_all
  obtain ⟨rfl, rfl⟩ := trodVars_none hV
  obtain ⟨s0, rfl, rfl, rfl, w0⟩ := open_string Try.underlying9 (hval 0 9 v0 rfl rfl) h0
  obtain ⟨s1, rfl, rfl, rfl, w1⟩ := open_string Try.underlying9 (hval 1 9 v1 rfl rfl) h1
  obtain ⟨a2, len2, cap2, rfl⟩ := okWide_slice Try.underlying22 (hval 2 22 v2 rfl rfl)
  obtain ⟨a3, len3, cap3, rfl⟩ := okWide_slice Try.underlying22 (hval 3 22 v3 rfl rfl)
  have lt2 : ∀ x ∈ p2, x.block < W.heap.size := by obtain ⟨m, hm⟩ := h2; exact DataW.trod_lt m _ _ _ hm
  have lt3 : ∀ x ∈ p3, x.block < W.heap.size := by obtain ⟨m, hm⟩ := h3; exact DataW.trod_lt m _ _ _ hm
  obtain ⟨f2, w2⟩ := open_strs_any h2
  obtain ⟨f3, w3⟩ := open_strs_any h3
  clear hA0 hval0
  refine (walk s0 s1 a2 a3 len2 cap2 len3 cap3 f2 f3 W w0 w1 w2 w3).mono fun e W' ⟨he, bel⟩ => ?_
  subst he
  exact ⟨_, rfl, _, _, _, [], _, [], hW', trodAll_mk1 (shut_bool Try.underlying4 _), (trodAll_cons_mk (shut_string Try.underlying9 w0) (trodAll_cons_mk (shut_string Try.underlying9 w1) (trodAll_cons_mk (Below.trod laidOut (by kernel_rfl) (of_decide_eq_true (by kernel_rfl)) h2 bel lt2) (trodAll_cons_mk (Below.trod laidOut (by kernel_rfl) (of_decide_eq_true (by kernel_rfl)) h3 bel lt3) trodAll_mk0)))), rfl, bel.frame _, fun h => by cases h⟩

theorem over : Rows.fnNewContextCopiesAttrsAndOverridesTheKeyRow.holds Try.pinned (OpenSpec.ofChange Rows.fnNewContextCopiesAttrsAndOverridesTheKeySpec) :=
  OpenClaim.holds_of_wide 4 Try.f4 rfl rfl rfl rfl rfl rfl rfl ⟨rfl, rfl, rfl, rfl, rfl⟩ rfl rfl rfl rfl rfl (by kernel_rfl) Try.func4 (by kernel_rfl)
    (of_decide_eq_true (by kernel_rfl)) (by unfold Func.isWrapper; first | (rw [if_pos (by decide +kernel)]; kernel_rfl) | (rw [if_neg (by decide +kernel)]; exact ⟨rfl, rfl⟩))
    (fun os started H enc _ => lifted os started H enc)

theorem proved : Rows.FnNewContextCopiesAttrsAndOverridesTheKeySaid := over
#print axioms proved
end Go.Proofs.Qxb6615042a.fnNewContextCopies
