/- zzOverlay: how many flags, how many bytes the union has. -/
import Derived.Test.Qxb6615042aFls
namespace Go.Proofs.Qxb6615042a
open Go.RowKit

/-- The flags handed, as a list. -/
def lsrc (p : Nat → Src) (n : Nat) : List Src := (List.range n).map p
theorem lsrc_succ (p : Nat → Src) (n : Nat) : lsrc p (n + 1) = lsrc p n ++ [p n] := by simp [lsrc, List.range_succ]
theorem lsrc_length (p : Nat → Src) (n : Nat) : (lsrc p n).length = n := by simp [lsrc]

def sz (l : List Src) : Nat := (l.map Src.jl).sum
theorem sz_append (l m : List Src) : sz (l ++ m) = sz l + sz m := by simp [sz]
theorem sz_one (s : Src) : sz [s] = s.jl := by simp [sz]

/-- Those of the first whose key is none of the second's. -/
def lf (p q : Nat → Src) (n m : Nat) : List Src := left Src.k (lsrc p n) (lsrc q m)
theorem lf_in {p q : Nat → Src} {n m j : Nat} (hj : j < m) (e : ks q j = (p n).key.toList) : lf p q (n + 1) m = lf p q n m := by
  unfold lf left
  rw [lsrc_succ, List.filter_append, List.filter_cons_of_neg, List.filter_nil, List.append_nil]
  have : (p n).k ∈ (lsrc q m).map Src.k := by
    refine List.mem_map.2 ⟨q j, List.mem_map.2 ⟨j, List.mem_range.2 hj, rfl⟩, e⟩
  simp only [decide_eq_true_eq, Decidable.not_not]
  exact this
theorem lf_out {p q : Nat → Src} {n m : Nat} (h : ∀ j, j < m → ks q j ≠ (p n).key.toList) : lf p q (n + 1) m = lf p q n m ++ [p n] := by
  unfold lf left
  rw [lsrc_succ, List.filter_append, List.filter_cons_of_pos, List.filter_nil]
  simp only [decide_eq_true_eq]
  intro hm
  obtain ⟨x, hx, e⟩ := List.mem_map.1 hm
  obtain ⟨j, hj, rfl⟩ := List.mem_map.1 hx
  exact h j (List.mem_range.1 hj) e

set_option maxRecDepth 100000 in
set_option maxHeartbeats 1600000 in
theorem over19_any (a a' : Option Addr) (n c m c' : Nat) (p q : Nat → Src) (w : World) (hn : n ≤ 65536) (hm : m ≤ 65536)
    (hp : ∀ i, i < n → (p i).jl ≤ 1048576) (hq : ∀ i, i < m → (q i).jl ≤ 1048576) (hs : Fls w a n p) (hs' : Fls w a' m q) (hR : Rises (ks q) m) :
    Calls Try.prog 19 #[.slice a n c, .slice a' m c'] w fun e w' => e = .returned (.tuple #[.int .i64 ((m + (lf p q n m).length : Nat) : Int), .int .i64 ((sz (lsrc q m) + sz (lf p q n m) : Nat) : Int)]) ∧ w = w' := by
  go_enter Try.func19, Try.ntmps19
  go_wp2
  go_loop [7, 8] (fun z i => ∃ k : Nat, k ≤ m ∧ z = .int .i64 ((sz (lsrc q k) : Nat) : Int) ∧ i = .int .i64 k ∧ sz (lsrc q k) ≤ k * 1048576) (fun _ i => m - (intOf i).toNat)
  case atStart => exact ⟨0, Nat.zero_le _, rfl, rfl, Nat.le_refl _⟩
  case round =>
    obtain ⟨k, hk, rfl, rfl, hb1⟩ := hrel
    by_cases hlt : k < m
    · obtain ⟨b, o, rfl, hb, hc⟩ := hs' (by omega)
      obtain ⟨d0, d1, _⟩ := hc k hlt
      have q1 := hq k hlt
      clear hc
      have es : sz (lsrc q (k + 1)) = sz (lsrc q k) + (q k).jl := by rw [lsrc_succ, sz_append, sz_one]
      go_wp2
      go_round
      case rel => exact ⟨k + 1, by omega, by rw [es]; go_num, by go_num, by omega⟩
      case measure => simp [intOf]; omega
    · obtain rfl : k = m := by omega
      go_wp2
      go_loop [6, 7, 9] (fun y z i => ∃ l : Nat, l ≤ n ∧ y = .int .i64 ((k + (lf p q l k).length : Nat) : Int) ∧ z = .int .i64 ((sz (lsrc q k) + sz (lf p q l k) : Nat) : Int) ∧ i = .int .i64 l ∧ (lf p q l k).length ≤ l ∧ sz (lf p q l k) ≤ l * 1048576) (fun _ _ i => n - (intOf i).toNat)
      case atStart => exact ⟨0, Nat.zero_le _, rfl, rfl, rfl, Nat.le_refl _, Nat.le_refl _⟩
      case round =>
        obtain ⟨l, hl, rfl, rfl, rfl, hb2, hb3⟩ := hrel
        by_cases hlt2 : l < n
        · obtain ⟨b, o, rfl, hb, hc⟩ := hs (by omega)
          obtain ⟨d0, d1, _⟩ := hc l hlt2
          have p1 := hp l hlt2
          clear hc
          go_wp2_with fail
          refine (find21_any a' k c' (p l).key q w (by omega) hs' hR).mono ?_
          rintro e w' ⟨hF, rfl⟩
          rcases hF with ⟨rfl, hno⟩ | ⟨j, hj, rfl, hyes⟩
          · have e1 := lf_out hno
            have e2 : (lf p q (l + 1) k).length = (lf p q l k).length + 1 := by rw [e1]; simp
            have e3 : sz (lf p q (l + 1) k) = sz (lf p q l k) + (p l).jl := by rw [e1, sz_append, sz_one]
            go_wp2
            go_round
            case rel => exact ⟨l + 1, by omega, by rw [e2]; go_num, by rw [e3]; go_num, by go_num, by omega, by omega⟩
            case measure => simp [intOf]; omega
          · have e1 := lf_in hj hyes
            go_wp2
            go_round
            case rel =>
              refine ⟨l + 1, hlt2, by rw [e1, Int.natCast_add], by rw [e1, Int.natCast_add], by go_num, by rw [e1]; exact Nat.le_succ_of_le hb2, by rw [e1]; exact Nat.le_trans hb3 (Nat.mul_le_mul_right _ (Nat.le_succ l))⟩
            case measure => simp [intOf]; omega
        · obtain rfl : l = n := by omega
          go_wp2
          go_ret2
          exact ⟨rfl, rfl⟩
end Go.Proofs.Qxb6615042a
