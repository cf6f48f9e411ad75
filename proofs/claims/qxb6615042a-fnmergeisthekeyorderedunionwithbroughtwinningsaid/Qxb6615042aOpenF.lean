/- A slice of EncodedFlag that came in, opened once into what the walks ask. -/
import Derived.Test.Qxb6615042aOpen
import Derived.Test.Qxb6615042aEnc
import Derived.Deep.Slices
import Derived.Deep.Strs
namespace Go.Proofs.Qxb6615042a
open Go.ChangeShapes Go.WideShapes Go.ChangeAt Go.RowKit Go.Deep

theorem cells56 : Try.prog.cellsOf 56 = 34 := by kernel_rfl
theorem cells43 : Try.prog.cellsOf 43 = 1 := by kernel_rfl
theorem cells44 : Try.prog.cellsOf 44 = 32 := by kernel_rfl
theorem cellsOf5 : Try.prog.cellsOf 5 = 1 := by kernel_rfl

/-- WHAT THE WALK IS TOLD OF A SLICE OF FLAGS THAT CAME IN. -/
def IsFls (w : World) (a : Option Addr) (len : Nat) (p : Nat → Src) : Prop :=
  len ≤ maxLen ∧ (∀ i, i < len → (p i).key.size ≤ maxLen ∧ (p i).jl ≤ maxLen) ∧ Fls w a len p ∧ (∀ i, i < len → SumOk (p i).sum ∧ Bys w (p i).ja (p i).jl)

section
variable {H : Type} {enc : TypeId × Value → H} {W : World} {base : Nat} {held : Bool}

theorem open_byte {fuel : Nat} {v : Value} {x : DataW H × List MemPlace} (h : DataW.trod enc Try.prog W base (fun _ => true) held fuel 5 [v] = some x) : ∃ i, v = .int .u8 i := by
  cases fuel with
  | zero => simp [DataW.trod] at h
  | succ m =>
    unfold DataW.trod at h
    rw [Try.underlying5] at h
    cases v <;> simp at h
    obtain ⟨⟨rfl, _⟩, _⟩ := h
    exact ⟨_, rfl⟩
theorem open_str {fuel : Nat} {v : Value} {x : DataW H × List MemPlace} (h : DataW.trod enc Try.prog W base (fun _ => true) held fuel 9 [v] = some x) : ∃ s : ByteArray, v = .string s ∧ s.size ≤ maxLen := by
  cases fuel with
  | zero => simp [DataW.trod] at h
  | succ m =>
    unfold DataW.trod at h
    rw [Try.underlying9] at h
    cases v <;> simp at h
    exact ⟨_, rfl, h.1⟩
theorem open_sum {fuel : Nat} {cs : List Value} {x : DataW H × List MemPlace} (h : DataW.trod enc Try.prog W base (fun _ => true) held fuel 44 cs = some x) : SumOk cs := by
  obtain ⟨xs, m, _, _, hl, hx, hi⟩ := DataW.trod_array Try.underlying44 h
  rw [cells44] at hl
  refine ⟨hl, fun v hv => ?_⟩
  obtain ⟨i, hlt, rfl⟩ := List.getElem_of_mem hv
  have := hi i (by omega)
  rw [cellsOf5, Nat.mul_one, List.getElem?_eq_getElem (by omega), List.drop_eq_getElem_cons hlt] at this
  rw [List.take_succ_cons, List.take_zero] at this
  exact open_byte this
theorem open_bys {fuel : Nat} {v : Value} {x : DataW H × List MemPlace} (h : DataW.trod enc Try.prog W base (fun _ => true) held fuel 43 [v] = some x) : ∃ ja jl jc, v = .slice ja jl jc ∧ jl ≤ maxLen ∧ Bys W ja jl := by
  rcases open_slice1 Try.underlying43 cellsOf5 h with ⟨hcs, _⟩ | ⟨a, len, cap, m, n, V, D, Pl, hcs, _, hl, hm, hmm, _, hx⟩
  · simp at hcs
    exact ⟨none, 0, 0, hcs, Nat.zero_le _, fun h => absurd h (Nat.lt_irrefl 0)⟩
  · simp at hcs
    simp only [if_true] at hmm
    refine ⟨some a, len, cap, hcs, by omega, fun hp => ?_⟩
    obtain ⟨b, off, spot⟩ := a
    have h0c := (hx 0 (by omega)).1
    have hspot : spot = none := by simpa [Addr.add] using World.cell?_spot h0c
    subst hspot
    have hb := World.block_lt_of_cell? _ _ h0c
    refine ⟨b, off, rfl, by simpa [Addr.add] using hb, fun i hi => ?_⟩
    obtain ⟨h1, h2⟩ := hx i (by omega)
    obtain ⟨z, hz⟩ := open_byte h2
    exact ⟨z, by rw [← add_plain, h1, hz]⟩
/-- One flag: 34 cells. -/
theorem open_flag {fuel : Nat} {cs : List Value} {x : DataW H × List MemPlace} (h : DataW.trod enc Try.prog W base (fun _ => true) held fuel 56 cs = some x) :
    ∃ s : Src, cs = .string s.key :: .slice s.ja s.jl s.jc :: s.sum ∧ s.key.size ≤ maxLen ∧ s.jl ≤ maxLen ∧ SumOk s.sum ∧ Bys W s.ja s.jl := by
  obtain ⟨y0, y1, y2, n, _, hl, h0, h1, h2⟩ := trod_struct3 Try.underlying56 h
  rw [cells56] at hl
  simp only [cells9, cells43, cells44] at h0 h1 h2
  obtain ⟨c0, t0, rfl, hl0⟩ := len_succ hl
  obtain ⟨c1, t1, rfl, hl1⟩ := len_succ hl0
  simp at h0 h1 h2
  obtain ⟨k, rfl, hk⟩ := open_str h0
  obtain ⟨ja, jl, jc, rfl, hj, hb⟩ := open_bys h1
  rw [List.take_of_length_le (by omega)] at h2
  exact ⟨⟨k, ja, jl, jc, t1⟩, rfl, hk, hj, open_sum h2, hb⟩
theorem open_fls {a : Option Addr} {len cap : Nat} {d : DataW H} {ps : List MemPlace}
    (h : DataW.Trod enc Try.prog W base (fun _ => true) held 32 (.slice a len cap) d ps) : ∃ p, IsFls W a len p := by
  obtain ⟨fuel, hf⟩ := h
  rcases open_slice Try.underlying32 hf with ⟨hcs, _⟩ | ⟨x, l, c, m, n, D, Pl, hcs, _, hl, hm, hmm, _, hx⟩
  · simp [Value.cells] at hcs
    obtain ⟨rfl, rfl, rfl⟩ := hcs
    exact ⟨fun _ => ⟨ByteArray.empty, none, 0, 0, []⟩, Nat.zero_le _, fun i h => absurd h (Nat.not_lt_zero i), fun h => absurd h (Nat.lt_irrefl 0), fun i h => absurd h (Nat.not_lt_zero i)⟩
  · simp [Value.cells] at hcs
    obtain ⟨rfl, rfl, rfl⟩ := hcs
    simp only [if_true] at hmm
    have each : ∀ i, i < len → ∃ s : Src, W.cells? base (x.add (i * 34)) 34 = some (.string s.key :: .slice s.ja s.jl s.jc :: s.sum) ∧ s.key.size ≤ maxLen ∧ s.jl ≤ maxLen ∧ SumOk s.sum ∧ Bys W s.ja s.jl := fun i hi => by
      obtain ⟨cs', h1, h2⟩ := hx i (by omega)
      rw [cells56] at h1
      obtain ⟨s, rfl, hs⟩ := open_flag h2
      exact ⟨s, h1, hs⟩
    have : ∃ p : Nat → Src, ∀ i, i < len → W.cells? base (x.add (i * 34)) 34 = some (.string (p i).key :: .slice (p i).ja (p i).jl (p i).jc :: (p i).sum) ∧ (p i).key.size ≤ maxLen ∧ (p i).jl ≤ maxLen ∧ SumOk (p i).sum ∧ Bys W (p i).ja (p i).jl := by
      refine ⟨fun i => if hi : i < len then Classical.choose (each i hi) else ⟨ByteArray.empty, none, 0, 0, []⟩, fun i hi => ?_⟩
      simp only [dif_pos hi]
      exact Classical.choose_spec (each i hi)
    obtain ⟨p, hp⟩ := this
    refine ⟨p, by omega, fun i hi => ⟨(hp i hi).2.1, (hp i hi).2.2.1⟩, fun hpos => ?_, fun i hi => ⟨(hp i hi).2.2.2.1, (hp i hi).2.2.2.2⟩⟩
    obtain ⟨b, off, spot⟩ := x
    have h0 := World.cells?_some (hp 0 hpos).1
    have h0c : W.cell? ⟨b, off, spot⟩ = some (.string (p 0).key) := by
      have := h0.2.2 0 (by omega)
      simpa [Addr.add] using this
    have hspot : spot = none := by simpa using World.cell?_spot h0c
    subst hspot
    have hb := World.block_lt_of_cell? _ _ h0c
    refine ⟨b, off, rfl, hb, fun i hi => ?_⟩
    have hc := (World.cells?_some (hp i hi).1).2.2
    have hsl := (hp i hi).2.2.2.1.1
    refine ⟨?_, ?_, fun j v hv => ?_⟩
    · have := hc 0 (by omega)
      rw [add_plain, add_plain] at this
      simpa using this
    · have := hc 1 (by omega)
      rw [add_plain, add_plain] at this
      simpa using this
    · have hj : j < 32 := by have := (List.getElem?_eq_some_iff.1 hv).1; omega
      have := hc (2 + j) (by omega)
      rw [add_plain, add_plain] at this
      rw [← Nat.add_assoc] at this
      rw [this, Nat.add_comm 2 j]
      simpa using hv
end
end Go.Proofs.Qxb6615042a
