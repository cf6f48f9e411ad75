/- The laws' guards on total length, and the built-in copy onto a row of strings of the call's own. -/
import Derived.Test.Qxb6615042aStrs
import Derived.Laws.CopyOwn
namespace Go.Proofs.Qxb6615042a
open Go.RowKit

/-- WHAT THE GUARD TELLS of a slice of strings. -/
def Small (p : Nat → ByteArray) (n : Nat) : Prop := n ≤ 1048576 ∧ ∀ i, i < n → (p i).size ≤ 1048576

set_option maxHeartbeats 1600000 in
theorem bytes7_any (tk : ByteArray) (a a2 : Option Addr) (n c n2 c2 : Nat) (p q : Nat → ByteArray) (w : World) (ht : tk.size ≤ maxLen) (hn : n ≤ maxLen) (hn2 : n2 ≤ maxLen) (hp : ∀ i, (p i).size ≤ maxLen) (hq : ∀ i, (q i).size ≤ maxLen) (hs : Strs w a n p) (hs2 : Strs w a2 n2 q) :
    Calls Try.prog 7 #[.string tk, .slice a n c, .slice a2 n2 c2] w fun e w' => BoolT (tk.size ≤ 1048576 ∧ Small p n ∧ Small q n2) e ∧ w = w' := by
  unfold maxLen at ht hn hn2 hp hq
  by_cases h1 : (1048576 : Int) < (tk.size : Int)
  · go_enter Try.func7, Try.ntmps7
    go_wp2
    go_ret
    exact ⟨BoolT.no, rfl⟩
  by_cases h2 : (1048576 : Int) < (n : Int)
  · go_enter Try.func7, Try.ntmps7
    go_wp2
    go_ret
    exact ⟨BoolT.no, rfl⟩
  by_cases h3 : (1048576 : Int) < (tk.size : Int) + (n : Int)
  · go_enter Try.func7, Try.ntmps7
    go_wp2
    go_ret
    exact ⟨BoolT.no, rfl⟩
  go_enter Try.func7, Try.ntmps7
  go_wp2
  go_loop [7, 8] (fun z i => ∃ (k : Nat) (m : Int), k ≤ n ∧ 0 ≤ m ∧ m ≤ 1048576 ∧ z = .int .i64 m ∧ i = .int .i64 k ∧ ∀ j, j < k → (p j).size ≤ 1048576) (fun _ i => n - (intOf i).toNat)
  case atStart => exact ⟨0, _, Nat.zero_le _, by omega, by omega, rfl, rfl, fun j h => absurd h (Nat.not_lt_zero j)⟩
  case round =>
    obtain ⟨k, m, hk, m0, m1, rfl, rfl, hall⟩ := hrel
    by_cases hlt : k < n
    · obtain ⟨b, o, rfl, hb, hc⟩ := hs (by omega)
      have hck := hc k hlt
      have hpk := hp k
      clear hc hs
      by_cases h4 : (1048576 : Int) < ((p k).size : Int)
      · go_wp2
        go_ret
        exact ⟨BoolT.no, rfl⟩
      by_cases h5 : (1048576 : Int) < m + ((p k).size : Int)
      · go_wp2
        go_ret
        exact ⟨BoolT.no, rfl⟩
      go_wp2
      go_round
      case rel => exact ⟨k + 1, m + (p k).size, by omega, by omega, by omega, rfl, by go_num, fun j hj => by
        by_cases e : j = k
        · subst e; omega
        · exact hall j (by omega)⟩
      case measure => simp [intOf]; omega
    · have hkn : k = n := by omega
      subst hkn
      by_cases h4 : (1048576 : Int) < (n2 : Int)
      · go_wp2
        go_ret
        exact ⟨BoolT.no, rfl⟩
      by_cases h5 : (1048576 : Int) < m + (n2 : Int)
      · go_wp2
        go_ret
        exact ⟨BoolT.no, rfl⟩
      go_wp2
      go_loop [7, 9] (fun z i => ∃ (l : Nat) (m : Int), l ≤ n2 ∧ 0 ≤ m ∧ m ≤ 1048576 ∧ z = .int .i64 m ∧ i = .int .i64 l ∧ ∀ j, j < l → (q j).size ≤ 1048576) (fun _ i => n2 - (intOf i).toNat)
      case atStart => exact ⟨0, _, Nat.zero_le _, by omega, by omega, rfl, rfl, fun j h => absurd h (Nat.not_lt_zero j)⟩
      case round =>
        obtain ⟨l, m', hl, m0', m1', rfl, rfl, hall2⟩ := hrel
        by_cases hlt2 : l < n2
        · obtain ⟨b, o, rfl, hb, hc⟩ := hs2 (by omega)
          have hck := hc l hlt2
          have hpk := hq l
          clear hc hs2
          by_cases h6 : (1048576 : Int) < ((q l).size : Int)
          · go_wp2
            go_ret
            exact ⟨BoolT.no, rfl⟩
          by_cases h7 : (1048576 : Int) < m' + ((q l).size : Int)
          · go_wp2
            go_ret
            exact ⟨BoolT.no, rfl⟩
          go_wp2
          go_round
          case rel => exact ⟨l + 1, m' + (q l).size, by omega, by omega, by omega, rfl, by go_num, fun j hj => by
            by_cases e : j = l
            · subst e; omega
            · exact hall2 j (by omega)⟩
          case measure => simp [intOf]; omega
        · go_wp2
          go_ret
          exact ⟨BoolT.yes ⟨by omega, ⟨by omega, fun i hi => hall i (by omega)⟩, ⟨by omega, fun i hi => hall2 i (by omega)⟩⟩, rfl⟩

set_option maxHeartbeats 1600000 in
theorem bytes13_any (tk ov : ByteArray) (a a2 : Option Addr) (n c n2 c2 : Nat) (p q : Nat → ByteArray) (w : World) (ht : tk.size ≤ maxLen) (hv : ov.size ≤ maxLen) (hn : n ≤ maxLen) (hn2 : n2 ≤ maxLen) (hp : ∀ i, (p i).size ≤ maxLen) (hq : ∀ i, (q i).size ≤ maxLen) (hs : Strs w a n p) (hs2 : Strs w a2 n2 q) :
    Calls Try.prog 13 #[.string tk, .string ov, .slice a n c, .slice a2 n2 c2] w fun e w' => BoolT (tk.size ≤ 1048576 ∧ ov.size ≤ 1048576 ∧ Small p n ∧ Small q n2) e ∧ w = w' := by
  unfold maxLen at ht hv hn hn2 hp hq
  by_cases h1 : (1048576 : Int) < (tk.size : Int)
  · go_enter Try.func13, Try.ntmps13
    go_wp2
    go_ret
    exact ⟨BoolT.no, rfl⟩
  by_cases h8 : (1048576 : Int) < (ov.size : Int)
  · go_enter Try.func13, Try.ntmps13
    go_wp2
    go_ret
    exact ⟨BoolT.no, rfl⟩
  by_cases h9 : (1048576 : Int) < (tk.size : Int) + (ov.size : Int)
  · go_enter Try.func13, Try.ntmps13
    go_wp2
    go_ret
    exact ⟨BoolT.no, rfl⟩
  by_cases h2 : (1048576 : Int) < (n : Int)
  · go_enter Try.func13, Try.ntmps13
    go_wp2
    go_ret
    exact ⟨BoolT.no, rfl⟩
  by_cases h3 : (1048576 : Int) < (tk.size : Int) + (ov.size : Int) + (n : Int)
  · go_enter Try.func13, Try.ntmps13
    go_wp2
    go_ret
    exact ⟨BoolT.no, rfl⟩
  go_enter Try.func13, Try.ntmps13
  go_wp2
  go_loop [9, 10] (fun z i => ∃ (k : Nat) (m : Int), k ≤ n ∧ 0 ≤ m ∧ m ≤ 1048576 ∧ z = .int .i64 m ∧ i = .int .i64 k ∧ ∀ j, j < k → (p j).size ≤ 1048576) (fun _ i => n - (intOf i).toNat)
  case atStart => exact ⟨0, _, Nat.zero_le _, by omega, by omega, rfl, rfl, fun j h => absurd h (Nat.not_lt_zero j)⟩
  case round =>
    obtain ⟨k, m, hk, m0, m1, rfl, rfl, hall⟩ := hrel
    by_cases hlt : k < n
    · obtain ⟨b, o, rfl, hb, hc⟩ := hs (by omega)
      have hck := hc k hlt
      have hpk := hp k
      clear hc hs
      by_cases h4 : (1048576 : Int) < ((p k).size : Int)
      · go_wp2
        go_ret
        exact ⟨BoolT.no, rfl⟩
      by_cases h5 : (1048576 : Int) < m + ((p k).size : Int)
      · go_wp2
        go_ret
        exact ⟨BoolT.no, rfl⟩
      go_wp2
      go_round
      case rel => exact ⟨k + 1, m + (p k).size, by omega, by omega, by omega, rfl, by go_num, fun j hj => by
        by_cases e : j = k
        · subst e; omega
        · exact hall j (by omega)⟩
      case measure => simp [intOf]; omega
    · have hkn : k = n := by omega
      subst hkn
      by_cases h4 : (1048576 : Int) < (n2 : Int)
      · go_wp2
        go_ret
        exact ⟨BoolT.no, rfl⟩
      by_cases h5 : (1048576 : Int) < m + (n2 : Int)
      · go_wp2
        go_ret
        exact ⟨BoolT.no, rfl⟩
      go_wp2
      go_loop [9, 11] (fun z i => ∃ (l : Nat) (m : Int), l ≤ n2 ∧ 0 ≤ m ∧ m ≤ 1048576 ∧ z = .int .i64 m ∧ i = .int .i64 l ∧ ∀ j, j < l → (q j).size ≤ 1048576) (fun _ i => n2 - (intOf i).toNat)
      case atStart => exact ⟨0, _, Nat.zero_le _, by omega, by omega, rfl, rfl, fun j h => absurd h (Nat.not_lt_zero j)⟩
      case round =>
        obtain ⟨l, m', hl, m0', m1', rfl, rfl, hall2⟩ := hrel
        by_cases hlt2 : l < n2
        · obtain ⟨b, o, rfl, hb, hc⟩ := hs2 (by omega)
          have hck := hc l hlt2
          have hpk := hq l
          clear hc hs2
          by_cases h6 : (1048576 : Int) < ((q l).size : Int)
          · go_wp2
            go_ret
            exact ⟨BoolT.no, rfl⟩
          by_cases h7 : (1048576 : Int) < m' + ((q l).size : Int)
          · go_wp2
            go_ret
            exact ⟨BoolT.no, rfl⟩
          go_wp2
          go_round
          case rel => exact ⟨l + 1, m' + (q l).size, by omega, by omega, by omega, rfl, by go_num, fun j hj => by
            by_cases e : j = l
            · subst e; omega
            · exact hall2 j (by omega)⟩
          case measure => simp [intOf]; omega
        · go_wp2
          go_ret
          exact ⟨BoolT.yes ⟨by omega, by omega, ⟨by omega, fun i hi => hall i (by omega)⟩, ⟨by omega, fun i hi => hall2 i (by omega)⟩⟩, rfl⟩

theorem size9 : (Try.prog.info? 9).map (·.size) = some 1 := by kernel_rfl

/-- 'copy(row, src)', row a row of strings of the call's own, src a slice of strings no longer than it. -/
theorem wpList_copy_strs {w : World} {ops : Array Oper} {rest : List Oper} {o : Oper} {a : Act} {Q : Exit → Act → World → Prop} (hgd : o.guard = none) (d s : Operand)
    (ho : o.op = .call { callee := .builtin .copy, args := #[d, s], argTypes := #[22, 22] }) (g N dCap n c : Nat) (sp : Option Addr) (hd : a.eval d = .slice (some ⟨g, 0, none⟩) N dCap) (hs : a.eval s = .slice sp n c)
    (f : Nat → Value) (hr : w.rowIs g 9 N f) (p : Nat → ByteArray) (hst : Strs w sp n p) (hn : n ≤ N)
    (h : ∀ w', w'.rowIs g 9 N (fun i => if i < n then .string (p i) else f i) → Turned (fun k => k = g) w w' → wpList Try.prog ops Q rest (a.put o.dst (goInt n)) w') : wpList Try.prog ops Q (o :: rest) a w := by
  by_cases h0 : n = 0
  · subst h0
    exact wpList_copy_nothing hgd d s 22 22 ho 9 Try.underlying22 size9 _ sp N dCap 0 c hd hs (by simp) (h w (hr.congr (fun i _ => by simp)) (Turned.refl _ _))
  · obtain ⟨b, off, rfl, hb, hc⟩ := hst (by omega)
    obtain ⟨cur, hg, hsz, hcur⟩ := hr
    have hlen : ((List.range n).map (fun i => Value.string (p i))).length = n := by simp
    have hget : ∀ j v, ((List.range n).map (fun i => Value.string (p i)))[j]? = some v → j < n ∧ v = .string (p j) := by
      intro j v hj
      rw [List.getElem?_map] at hj
      by_cases hjn : j < n
      · rw [List.getElem?_range hjn] at hj
        exact ⟨hjn, by simpa using hj.symm⟩
      · rw [List.getElem?_eq_none (by simpa using Nat.le_of_not_lt hjn)] at hj
        cases hj
    have K := wpList_copy_own (P := Try.prog) (w := w) (ops := ops) (rest := rest) (o := o) (a := a) (Q := Q) hgd d s 22 22 ho 9 Try.underlying22 size9 g 0 N dCap ⟨b, off, none⟩ n c hd hs cur 9 hg ((List.range n).map (fun i => Value.string (p i)))
      (by rw [hlen]; exact (Nat.min_eq_left hn).symm)
      (fun j v hj => by obtain ⟨hjn, rfl⟩ := hget j v hj; rw [WideShapes.add_plain]; exact hc j hjn) (by rw [hlen, hsz]; omega)
      (fun v hv => by obtain ⟨i, _, rfl⟩ := List.mem_map.1 hv; rfl)
    rw [hlen] at K
    refine K (h _ ?_ ?_)
    · refine ⟨_, setRow_heap w g _ _ 9 _ hg, by simp [hsz]; omega, fun i hi => ?_⟩
      simp only [List.take_zero, List.nil_append, Nat.zero_add]
      by_cases hin : i < n
      · have e0 : ((List.range n).map (fun i => Value.string (p i)) ++ cur.toList.drop n)[i]? = some (.string (p i)) := by
          rw [List.getElem?_append_left (by simpa using hin), List.getElem?_map, List.getElem?_range hin]; rfl
        simp only [List.getElem?_toArray, e0, if_pos hin]
      · have e1 : ((List.range n).map (fun i => Value.string (p i)) ++ cur.toList.drop n)[i]? = cur[i]? := by
          rw [List.getElem?_append_right (by simpa using Nat.le_of_not_lt hin), List.getElem?_drop]
          simp only [hlen, Array.getElem?_toList]
          congr 1; omega
        simp only [List.getElem?_toArray, e1, hcur i hi, if_neg hin]
    · exact ⟨rfl, rfl, rfl, by simp [World.setRow], fun k _ hk => setRow_other w g k _ hk⟩
end Go.Proofs.Qxb6615042a
