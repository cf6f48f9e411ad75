/- FnNewContextCopiesAttrsAndOverridesTheKey: the walk. -/
import Derived.Test.Qxb6615042aCommon
namespace Go.Proofs.Qxb6615042a
open Go.RowKit Go.Maps

set_option maxHeartbeats 3200000 in
set_option maxRecDepth 100000 in
theorem law4_ss (tk ov : ByteArray) (x : Addr) (y : Addr) (n c n2 c2 : Nat) (p q : Nat → ByteArray) (w : World) (htk : tk.size ≤ maxLen) (hov : ov.size ≤ maxLen)
    (hn : n ≤ maxLen) (hn2 : n2 ≤ maxLen) (hp : ∀ i, (p i).size ≤ maxLen) (hq : ∀ i, (q i).size ≤ maxLen) (hs : Strs w (some x) n p) (hs2 : Strs w (some y) n2 q) :
    Calls Try.prog 4 #[.string tk, .string ov, .slice (some x) n c, .slice (some y) n2 c2] w fun e w' => e = .returned (.bool true) ∧ Below w.heap.size w w' := by
  have P0 := bytes13_any tk ov (some x) (some y) n c n2 c2 p q w htk hov hn hn2 hp hq hs hs2
  have q22 : ∀ (w : World) (a : Option Addr) (n c : Nat), (binOp .neq 22 (.slice a n c) (.slice none 0 0)).run Try.prog w = .ok (.bool (!a.isNone)) w := fun w a n c => run_neq_slice_nil w 22 9 a n c Try.underlying22
  unfold maxLen at htk hov hn hn2 hp hq
  go_enter Try.func4, Try.ntmps4
  go_wp2_with fail
  refine P0.mono ?_
  rintro e w' ⟨⟨b, rfl, hb⟩, rfl⟩
  clear P0 hp hq
  cases b
  · go_wp2
    go_ret
    exact ⟨rfl, Below.refl _ _⟩
  obtain ⟨t1, t2, ⟨s1, hp⟩, ⟨s2, hq⟩⟩ := hb rfl
  clear hb
  have k1 : ¬ (1048576 : Int) < (tk.size : Int) := by omega
  have k2 : ¬ (1048576 : Int) < (ov.size : Int) := by omega
  by_cases h3 : (65536 : Int) < (n : Int)
  · go_wp2
    go_ret
    exact ⟨rfl, Below.refl _ _⟩
  by_cases h4 : (65536 : Int) < (n2 : Int)
  · go_wp2
    go_ret
    exact ⟨rfl, Below.refl _ _⟩
  have m1 := mk22 n (by omega)
  have hr := World.rowIs_made w (.string ⟨#[]⟩) n 9
  have hsa : Strs (w.alloc (.cells (madeCells #[.string ⟨#[]⟩] n) 9)) (some x) n p := hs.below ((Below.refl _ _).alloc (Nat.le_refl _) _)
  have m2 := mk22 n2 (by omega)
  go_wp2_with (first
    | (refine wpList_copy_strs rfl (.tmp 44) (.tmp 45) rfl w.heap.size n n n c (some x) rfl rfl _ hr p hsa (Nat.le_refl _) ?_; intro w1 hr1 ht1; have b1 := ((Below.refl w.heap.size w).alloc (Nat.le_refl _) (.cells (madeCells #[.string ⟨#[]⟩] n) 9)).trans (ht1.below (B := w.heap.size) (by simp) (fun k e => by omega)); have hsb := hs2.below (b1.alloc b1.size (.cells (madeCells #[.string ⟨#[]⟩] n2) 9)))
    | (refine wpList_copy_strs rfl (.tmp 53) (.tmp 54) rfl w1.heap.size n2 n2 n2 c2 (some y) rfl rfl _ (World.rowIs_made w1 (.string ⟨#[]⟩) n2 9) q hsb (Nat.le_refl _) ?_; intro w2 hr2 ht2))
  have b2 : Below w.heap.size w w2 := (b1.alloc b1.size _).trans (ht2.below (B := w.heap.size) (by have := b1.size; simp; omega) (fun k e => by have := b1.size; omega))
  have ks : Strs w2 (some ⟨w.heap.size, 0, none⟩) n p := strs_of_row (ht2.row (hr1.alloc _) (by have := hr1.lt; omega)) (fun i hi => by simp [hi])
  have vs : Strs w2 (some ⟨w1.heap.size, 0, none⟩) n2 q := strs_of_row hr2 (fun i hi => by simp [hi])
  clear m1 m2 hr hsa hsb hs hs2 hr1 hr2 ht1 ht2 q22
  refine (sb8_any _ n n _ p w2 (by omega) (by omega) (by omega) hp ks).mono ?_
  rintro e w' ⟨⟨z, rfl, z0, z1⟩, rfl⟩
  by_cases h5 : (1048576 : Int) < z
  · go_wp2
    go_ret
    exact ⟨rfl, b2⟩
  go_wp2_with fail
  refine (sb8_any _ n2 n2 _ q w2 (by omega) (by omega) (by omega) hq vs).mono ?_
  rintro e w' ⟨⟨z', rfl, z0', z1'⟩, rfl⟩
  by_cases h6 : (1048576 : Int) < z'
  · go_wp2
    go_ret
    exact ⟨rfl, b2⟩
  by_cases h7 : n = n2
  rotate_left
  · have h8 : ((n : Int) != (n2 : Int)) = true := by simp; omega
    go_wp2
    go_ret
    exact ⟨rfl, b2⟩
  subst h7
  go_wp2_with fail
  refine (ord9_any _ n n p w2 (by omega) ks).mono ?_
  rintro e w3 ⟨⟨b, rfl, hR⟩, nd, rfl⟩
  have b3 := Below.drewN b2 nd
  have ks3 : Strs (w2.drewN nd) _ n p := ks
  have vs3 : Strs (w2.drewN nd) _ n q := vs
  clear ks vs b2
  generalize w2.drewN nd = w3 at b3 ks3 vs3
  cases b
  · clear hR
    go_wp2
    go_ret
    exact ⟨rfl, b3⟩
  replace hR := hR rfl
  go_wp2_with fail
  refine (ofstrs_any tk _ _ n n n p q w3 (fun h => by cases h) (by omega) hp ks3 vs3).mono ?_
  rintro e w4 ⟨⟨m1, d1, rfl, hc1, hm1⟩, bx⟩
  have ks4 := ks3.below bx
  have vs4 := vs3.below bx
  have b4 : Below w.heap.size w w4 := b3.trans (bx.mono b3.size)
  clear ks3 vs3 b3 bx
  have hZ : withSz tk (Mk (kd p) (kd q) n) (Zk (kd p) (kd q) n) ≤ n + 1 := by
    have := Zk_le (kd p) (kd q) n
    unfold withSz bump; split
    · omega
    · split <;> omega
  go_wp2_with fail
  refine (newctx_some ov m1 d1 _ _ w4 hc1 (by omega)).mono ?_
  rintro e w5 ⟨rfl, hc2, hc1', bx⟩
  have ks5 := ks4.below bx
  have vs5 := vs4.below bx
  have b5 : Below w.heap.size w w5 := b4.trans (bx.mono b4.size)
  clear ks4 vs4 b4 bx hc1
  cases he : ov.toList.isEmpty
  · have Q1 := is11_any tk m1 _ _ _ _ _ n n n p q w5 (by omega) hp ks5 vs5 hR hc1' (good_of tk p q n hR)
    have Q2 := is11_any ov _ _ _ _ _ _ n n n p q w5 (by omega) hp ks5 vs5 hR hc2 (good_over tk ov p q n hR he)
    go_wp2_with fail
    refine Q1.mono ?_
    rintro e w' ⟨rfl, rfl⟩
    go_wp2_with fail
    refine Q2.mono ?_
    rintro e w' ⟨rfl, rfl⟩
    go_wp2
    go_ret
    exact ⟨rfl, b5⟩
  · have Q1 := is11_any tk m1 _ _ _ _ _ n n n p q w5 (by omega) hp ks5 vs5 hR hc1' (good_of tk p q n hR)
    have hG2 : Good tk p q n (withKey ov (withKey tk (Mk (kd p) (kd q) n))) (withSz ov (withKey tk (Mk (kd p) (kd q) n)) (withSz tk (Mk (kd p) (kd q) n) (Zk (kd p) (kd q) n))) := by
      have e1 : ∀ M, withKey ov M = M := fun M => by simp [withKey, he]
      have e2 : ∀ M z, withSz ov M z = z := fun M z => by simp [withSz, he]
      rw [e1, e2]; exact good_of tk p q n hR
    have Q2 := is11_any tk _ _ _ _ _ _ n n n p q w5 (by omega) hp ks5 vs5 hR hc2 hG2
    go_wp2_with fail
    refine Q1.mono ?_
    rintro e w' ⟨rfl, rfl⟩
    go_wp2_with fail
    refine Q2.mono ?_
    rintro e w' ⟨rfl, rfl⟩
    go_wp2
    go_ret
    exact ⟨rfl, b5⟩

set_option maxHeartbeats 3200000 in
set_option maxRecDepth 100000 in
theorem law4_sz (tk ov : ByteArray) (x : Addr) (n c n2 c2 : Nat) (p q : Nat → ByteArray) (w : World) (htk : tk.size ≤ maxLen) (hov : ov.size ≤ maxLen)
    (hn : n ≤ maxLen) (hn2 : n2 ≤ maxLen) (hp : ∀ i, (p i).size ≤ maxLen) (hq : ∀ i, (q i).size ≤ maxLen) (hs : Strs w (some x) n p) (hs2 : Strs w none n2 q) (hz2 : n2 = 0) :
    Calls Try.prog 4 #[.string tk, .string ov, .slice (some x) n c, .slice none n2 c2] w fun e w' => e = .returned (.bool true) ∧ Below w.heap.size w w' := by
  have P0 := bytes13_any tk ov (some x) none n c n2 c2 p q w htk hov hn hn2 hp hq hs hs2
  have q22 : ∀ (w : World) (a : Option Addr) (n c : Nat), (binOp .neq 22 (.slice a n c) (.slice none 0 0)).run Try.prog w = .ok (.bool (!a.isNone)) w := fun w a n c => run_neq_slice_nil w 22 9 a n c Try.underlying22
  unfold maxLen at htk hov hn hn2 hp hq
  have HZ2 : Hid (n2 = 0) := hz2
  clear hz2
  go_enter Try.func4, Try.ntmps4
  go_wp2_with fail
  refine P0.mono ?_
  rintro e w' ⟨⟨b, rfl, hb⟩, rfl⟩
  clear P0 hp hq
  cases b
  · go_wp2
    go_ret
    exact ⟨rfl, Below.refl _ _⟩
  obtain ⟨t1, t2, ⟨s1, hp⟩, ⟨s2, hq⟩⟩ := hb rfl
  clear hb
  have k1 : ¬ (1048576 : Int) < (tk.size : Int) := by omega
  have k2 : ¬ (1048576 : Int) < (ov.size : Int) := by omega
  by_cases h3 : (65536 : Int) < (n : Int)
  · go_wp2
    go_ret
    exact ⟨rfl, Below.refl _ _⟩
  by_cases h4 : (65536 : Int) < (n2 : Int)
  · go_wp2
    go_ret
    exact ⟨rfl, Below.refl _ _⟩
  have m1 := mk22 n (by omega)
  have hr := World.rowIs_made w (.string ⟨#[]⟩) n 9
  have hsa : Strs (w.alloc (.cells (madeCells #[.string ⟨#[]⟩] n) 9)) (some x) n p := hs.below ((Below.refl _ _).alloc (Nat.le_refl _) _)
  go_wp2_with (first
    | (refine wpList_copy_strs rfl (.tmp 44) (.tmp 45) rfl w.heap.size n n n c (some x) rfl rfl _ hr p hsa (Nat.le_refl _) ?_; intro w1 hr1 ht1; have b1 := ((Below.refl w.heap.size w).alloc (Nat.le_refl _) (.cells (madeCells #[.string ⟨#[]⟩] n) 9)).trans (ht1.below (B := w.heap.size) (by simp) (fun k e => by omega))))
  have b2 : Below w.heap.size w w1 := b1
  have ks : Strs w1 (some ⟨w.heap.size, 0, none⟩) n p := strs_of_row hr1 (fun i hi => by simp [hi])
  have vs : Strs w1 none n2 q := hs2.below b1
  clear m1 hr hsa hs hs2 hr1 ht1 q22 b1
  refine (sb8_any _ n n _ p w1 (by omega) (by omega) (by omega) hp ks).mono ?_
  rintro e w' ⟨⟨z, rfl, z0, z1⟩, rfl⟩
  by_cases h5 : (1048576 : Int) < z
  · go_wp2
    go_ret
    exact ⟨rfl, b2⟩
  go_wp2_with fail
  refine (sb8_any _ n2 c2 _ q w1 (by omega) (by omega) (by omega) hq vs).mono ?_
  rintro e w' ⟨⟨z', rfl, z0', z1'⟩, rfl⟩
  by_cases h6 : (1048576 : Int) < z'
  · go_wp2
    go_ret
    exact ⟨rfl, b2⟩
  by_cases h7 : n = n2
  rotate_left
  · have h8 : ((n : Int) != (n2 : Int)) = true := by simp; omega
    go_wp2
    go_ret
    exact ⟨rfl, b2⟩
  subst h7
  go_wp2_with fail
  refine (ord9_any _ n n p w1 (by omega) ks).mono ?_
  rintro e w3 ⟨⟨b, rfl, hR⟩, nd, rfl⟩
  have b3 := Below.drewN b2 nd
  have ks3 : Strs (w1.drewN nd) _ n p := ks
  have vs3 : Strs (w1.drewN nd) _ n q := vs
  clear ks vs b2
  generalize w1.drewN nd = w3 at b3 ks3 vs3
  cases b
  · clear hR
    go_wp2
    go_ret
    exact ⟨rfl, b3⟩
  replace hR := hR rfl
  go_wp2_with fail
  refine (ofstrs_any tk _ _ n n c2 p q w3 (fun h => by cases h) (by omega) hp ks3 vs3).mono ?_
  rintro e w4 ⟨⟨m1, d1, rfl, hc1, hm1⟩, bx⟩
  have ks4 := ks3.below bx
  have vs4 := vs3.below bx
  have b4 : Below w.heap.size w w4 := b3.trans (bx.mono b3.size)
  clear ks3 vs3 b3 bx
  have hZ : withSz tk (Mk (kd p) (kd q) n) (Zk (kd p) (kd q) n) ≤ n + 1 := by
    have := Zk_le (kd p) (kd q) n
    unfold withSz bump; split
    · omega
    · split <;> omega
  go_wp2_with fail
  refine (newctx_some ov m1 d1 _ _ w4 hc1 (by omega)).mono ?_
  rintro e w5 ⟨rfl, hc2, hc1', bx⟩
  have ks5 := ks4.below bx
  have vs5 := vs4.below bx
  have b5 : Below w.heap.size w w5 := b4.trans (bx.mono b4.size)
  clear ks4 vs4 b4 bx hc1
  cases he : ov.toList.isEmpty
  · have Q1 := is11_any tk m1 _ _ _ _ _ n n c2 p q w5 (by omega) hp ks5 vs5 hR hc1' (good_of tk p q n hR)
    have Q2 := is11_any ov _ _ _ _ _ _ n n c2 p q w5 (by omega) hp ks5 vs5 hR hc2 (good_over tk ov p q n hR he)
    go_wp2_with fail
    refine Q1.mono ?_
    rintro e w' ⟨rfl, rfl⟩
    go_wp2_with fail
    refine Q2.mono ?_
    rintro e w' ⟨rfl, rfl⟩
    go_wp2
    go_ret
    exact ⟨rfl, b5⟩
  · have Q1 := is11_any tk m1 _ _ _ _ _ n n c2 p q w5 (by omega) hp ks5 vs5 hR hc1' (good_of tk p q n hR)
    have hG2 : Good tk p q n (withKey ov (withKey tk (Mk (kd p) (kd q) n))) (withSz ov (withKey tk (Mk (kd p) (kd q) n)) (withSz tk (Mk (kd p) (kd q) n) (Zk (kd p) (kd q) n))) := by
      have e1 : ∀ M, withKey ov M = M := fun M => by simp [withKey, he]
      have e2 : ∀ M z, withSz ov M z = z := fun M z => by simp [withSz, he]
      rw [e1, e2]; exact good_of tk p q n hR
    have Q2 := is11_any tk _ _ _ _ _ _ n n c2 p q w5 (by omega) hp ks5 vs5 hR hc2 hG2
    go_wp2_with fail
    refine Q1.mono ?_
    rintro e w' ⟨rfl, rfl⟩
    go_wp2_with fail
    refine Q2.mono ?_
    rintro e w' ⟨rfl, rfl⟩
    go_wp2
    go_ret
    exact ⟨rfl, b5⟩

set_option maxHeartbeats 3200000 in
set_option maxRecDepth 100000 in
theorem law4_zs (tk ov : ByteArray) (y : Addr) (n c n2 c2 : Nat) (p q : Nat → ByteArray) (w : World) (htk : tk.size ≤ maxLen) (hov : ov.size ≤ maxLen)
    (hn : n ≤ maxLen) (hn2 : n2 ≤ maxLen) (hp : ∀ i, (p i).size ≤ maxLen) (hq : ∀ i, (q i).size ≤ maxLen) (hs : Strs w none n p) (hs2 : Strs w (some y) n2 q) (hz : n = 0) (hcz : c = 0) :
    Calls Try.prog 4 #[.string tk, .string ov, .slice none n c, .slice (some y) n2 c2] w fun e w' => e = .returned (.bool true) ∧ Below w.heap.size w w' := by
  have P0 := bytes13_any tk ov none (some y) n c n2 c2 p q w htk hov hn hn2 hp hq hs hs2
  have q22 : ∀ (w : World) (a : Option Addr) (n c : Nat), (binOp .neq 22 (.slice a n c) (.slice none 0 0)).run Try.prog w = .ok (.bool (!a.isNone)) w := fun w a n c => run_neq_slice_nil w 22 9 a n c Try.underlying22
  unfold maxLen at htk hov hn hn2 hp hq
  have HZ : Hid (n = 0 ∧ c = 0) := ⟨hz, hcz⟩
  clear hz hcz
  go_enter Try.func4, Try.ntmps4
  go_wp2_with fail
  refine P0.mono ?_
  rintro e w' ⟨⟨b, rfl, hb⟩, rfl⟩
  clear P0 hp hq
  cases b
  · go_wp2
    go_ret
    exact ⟨rfl, Below.refl _ _⟩
  obtain ⟨t1, t2, ⟨s1, hp⟩, ⟨s2, hq⟩⟩ := hb rfl
  clear hb
  have k1 : ¬ (1048576 : Int) < (tk.size : Int) := by omega
  have k2 : ¬ (1048576 : Int) < (ov.size : Int) := by omega
  by_cases h3 : (65536 : Int) < (n : Int)
  · go_wp2
    go_ret
    exact ⟨rfl, Below.refl _ _⟩
  by_cases h4 : (65536 : Int) < (n2 : Int)
  · go_wp2
    go_ret
    exact ⟨rfl, Below.refl _ _⟩
  have m2 := mk22 n2 (by omega)
  have hsb := hs2.below ((Below.refl w.heap.size w).alloc (Nat.le_refl _) (.cells (madeCells #[.string ⟨#[]⟩] n2) 9))
  go_wp2_with (first
    | (refine wpList_copy_strs rfl (.tmp 53) (.tmp 54) rfl w.heap.size n2 n2 n2 c2 (some y) rfl rfl _ (World.rowIs_made w (.string ⟨#[]⟩) n2 9) q hsb (Nat.le_refl _) ?_; intro w2 hr2 ht2))
  have b2 : Below w.heap.size w w2 := ((Below.refl _ _).alloc (Nat.le_refl _) _).trans (ht2.below (B := w.heap.size) (by simp) (fun k e => by omega))
  have ks : Strs w2 none n p := hs.below b2
  have vs : Strs w2 (some ⟨w.heap.size, 0, none⟩) n2 q := strs_of_row hr2 (fun i hi => by simp [hi])
  clear m2 hsb hs hs2 hr2 ht2 q22
  refine (sb8_any _ n c _ p w2 (by omega) (by omega) (by omega) hp ks).mono ?_
  rintro e w' ⟨⟨z, rfl, z0, z1⟩, rfl⟩
  by_cases h5 : (1048576 : Int) < z
  · go_wp2
    go_ret
    exact ⟨rfl, b2⟩
  go_wp2_with fail
  refine (sb8_any _ n2 n2 _ q w2 (by omega) (by omega) (by omega) hq vs).mono ?_
  rintro e w' ⟨⟨z', rfl, z0', z1'⟩, rfl⟩
  by_cases h6 : (1048576 : Int) < z'
  · go_wp2
    go_ret
    exact ⟨rfl, b2⟩
  by_cases h7 : n = n2
  rotate_left
  · have h8 : ((n : Int) != (n2 : Int)) = true := by simp; omega
    go_wp2
    go_ret
    exact ⟨rfl, b2⟩
  subst h7
  go_wp2_with fail
  refine (ord9_any _ n c p w2 (by omega) ks).mono ?_
  rintro e w3 ⟨⟨b, rfl, hR⟩, nd, rfl⟩
  have b3 := Below.drewN b2 nd
  have ks3 : Strs (w2.drewN nd) _ n p := ks
  have vs3 : Strs (w2.drewN nd) _ n q := vs
  clear ks vs b2
  generalize w2.drewN nd = w3 at b3 ks3 vs3
  cases b
  · clear hR
    go_wp2
    go_ret
    exact ⟨rfl, b3⟩
  replace hR := hR rfl
  go_wp2_with fail
  refine (ofstrs_any tk _ _ n c n p q w3 (fun _ => HZ.out) (by omega) hp ks3 vs3).mono ?_
  rintro e w4 ⟨⟨m1, d1, rfl, hc1, hm1⟩, bx⟩
  have ks4 := ks3.below bx
  have vs4 := vs3.below bx
  have b4 : Below w.heap.size w w4 := b3.trans (bx.mono b3.size)
  clear ks3 vs3 b3 bx
  have hZ : withSz tk (Mk (kd p) (kd q) n) (Zk (kd p) (kd q) n) ≤ n + 1 := by
    have := Zk_le (kd p) (kd q) n
    unfold withSz bump; split
    · omega
    · split <;> omega
  go_wp2_with fail
  refine (newctx_some ov m1 d1 _ _ w4 hc1 (by omega)).mono ?_
  rintro e w5 ⟨rfl, hc2, hc1', bx⟩
  have ks5 := ks4.below bx
  have vs5 := vs4.below bx
  have b5 : Below w.heap.size w w5 := b4.trans (bx.mono b4.size)
  clear ks4 vs4 b4 bx hc1
  cases he : ov.toList.isEmpty
  · have Q1 := is11_any tk m1 _ _ _ _ _ n c n p q w5 (by omega) hp ks5 vs5 hR hc1' (good_of tk p q n hR)
    have Q2 := is11_any ov _ _ _ _ _ _ n c n p q w5 (by omega) hp ks5 vs5 hR hc2 (good_over tk ov p q n hR he)
    go_wp2_with fail
    refine Q1.mono ?_
    rintro e w' ⟨rfl, rfl⟩
    go_wp2_with fail
    refine Q2.mono ?_
    rintro e w' ⟨rfl, rfl⟩
    go_wp2
    go_ret
    exact ⟨rfl, b5⟩
  · have Q1 := is11_any tk m1 _ _ _ _ _ n c n p q w5 (by omega) hp ks5 vs5 hR hc1' (good_of tk p q n hR)
    have hG2 : Good tk p q n (withKey ov (withKey tk (Mk (kd p) (kd q) n))) (withSz ov (withKey tk (Mk (kd p) (kd q) n)) (withSz tk (Mk (kd p) (kd q) n) (Zk (kd p) (kd q) n))) := by
      have e1 : ∀ M, withKey ov M = M := fun M => by simp [withKey, he]
      have e2 : ∀ M z, withSz ov M z = z := fun M z => by simp [withSz, he]
      rw [e1, e2]; exact good_of tk p q n hR
    have Q2 := is11_any tk _ _ _ _ _ _ n c n p q w5 (by omega) hp ks5 vs5 hR hc2 hG2
    go_wp2_with fail
    refine Q1.mono ?_
    rintro e w' ⟨rfl, rfl⟩
    go_wp2_with fail
    refine Q2.mono ?_
    rintro e w' ⟨rfl, rfl⟩
    go_wp2
    go_ret
    exact ⟨rfl, b5⟩

set_option maxHeartbeats 3200000 in
set_option maxRecDepth 100000 in
theorem law4_zz (tk ov : ByteArray) (n c n2 c2 : Nat) (p q : Nat → ByteArray) (w : World) (htk : tk.size ≤ maxLen) (hov : ov.size ≤ maxLen)
    (hn : n ≤ maxLen) (hn2 : n2 ≤ maxLen) (hp : ∀ i, (p i).size ≤ maxLen) (hq : ∀ i, (q i).size ≤ maxLen) (hs : Strs w none n p) (hs2 : Strs w none n2 q) (hz : n = 0) (hcz : c = 0) (hz2 : n2 = 0) :
    Calls Try.prog 4 #[.string tk, .string ov, .slice none n c, .slice none n2 c2] w fun e w' => e = .returned (.bool true) ∧ Below w.heap.size w w' := by
  have P0 := bytes13_any tk ov none none n c n2 c2 p q w htk hov hn hn2 hp hq hs hs2
  have q22 : ∀ (w : World) (a : Option Addr) (n c : Nat), (binOp .neq 22 (.slice a n c) (.slice none 0 0)).run Try.prog w = .ok (.bool (!a.isNone)) w := fun w a n c => run_neq_slice_nil w 22 9 a n c Try.underlying22
  unfold maxLen at htk hov hn hn2 hp hq
  have HZ : Hid (n = 0 ∧ c = 0) := ⟨hz, hcz⟩
  clear hz hcz
  have HZ2 : Hid (n2 = 0) := hz2
  clear hz2
  go_enter Try.func4, Try.ntmps4
  go_wp2_with fail
  refine P0.mono ?_
  rintro e w' ⟨⟨b, rfl, hb⟩, rfl⟩
  clear P0 hp hq
  cases b
  · go_wp2
    go_ret
    exact ⟨rfl, Below.refl _ _⟩
  obtain ⟨t1, t2, ⟨s1, hp⟩, ⟨s2, hq⟩⟩ := hb rfl
  clear hb
  have k1 : ¬ (1048576 : Int) < (tk.size : Int) := by omega
  have k2 : ¬ (1048576 : Int) < (ov.size : Int) := by omega
  by_cases h3 : (65536 : Int) < (n : Int)
  · go_wp2
    go_ret
    exact ⟨rfl, Below.refl _ _⟩
  by_cases h4 : (65536 : Int) < (n2 : Int)
  · go_wp2
    go_ret
    exact ⟨rfl, Below.refl _ _⟩
  go_wp2_with fail
  have b2 : Below w.heap.size w w := Below.refl _ _
  have ks : Strs w none n p := hs
  have vs : Strs w none n2 q := hs2
  clear hs hs2 q22
  refine (sb8_any _ n c _ p w (by omega) (by omega) (by omega) hp ks).mono ?_
  rintro e w' ⟨⟨z, rfl, z0, z1⟩, rfl⟩
  by_cases h5 : (1048576 : Int) < z
  · go_wp2
    go_ret
    exact ⟨rfl, b2⟩
  go_wp2_with fail
  refine (sb8_any _ n2 c2 _ q w (by omega) (by omega) (by omega) hq vs).mono ?_
  rintro e w' ⟨⟨z', rfl, z0', z1'⟩, rfl⟩
  by_cases h6 : (1048576 : Int) < z'
  · go_wp2
    go_ret
    exact ⟨rfl, b2⟩
  by_cases h7 : n = n2
  rotate_left
  · have h8 : ((n : Int) != (n2 : Int)) = true := by simp; omega
    go_wp2
    go_ret
    exact ⟨rfl, b2⟩
  subst h7
  go_wp2_with fail
  refine (ord9_any _ n c p w (by omega) ks).mono ?_
  rintro e w3 ⟨⟨b, rfl, hR⟩, nd, rfl⟩
  have b3 := Below.drewN b2 nd
  have ks3 : Strs (w.drewN nd) _ n p := ks
  have vs3 : Strs (w.drewN nd) _ n q := vs
  clear ks vs b2
  generalize w.drewN nd = w3 at b3 ks3 vs3
  cases b
  · clear hR
    go_wp2
    go_ret
    exact ⟨rfl, b3⟩
  replace hR := hR rfl
  go_wp2_with fail
  refine (ofstrs_any tk _ _ n c c2 p q w3 (fun _ => HZ.out) (by omega) hp ks3 vs3).mono ?_
  rintro e w4 ⟨⟨m1, d1, rfl, hc1, hm1⟩, bx⟩
  have ks4 := ks3.below bx
  have vs4 := vs3.below bx
  have b4 : Below w.heap.size w w4 := b3.trans (bx.mono b3.size)
  clear ks3 vs3 b3 bx
  have hZ : withSz tk (Mk (kd p) (kd q) n) (Zk (kd p) (kd q) n) ≤ n + 1 := by
    have := Zk_le (kd p) (kd q) n
    unfold withSz bump; split
    · omega
    · split <;> omega
  go_wp2_with fail
  refine (newctx_some ov m1 d1 _ _ w4 hc1 (by omega)).mono ?_
  rintro e w5 ⟨rfl, hc2, hc1', bx⟩
  have ks5 := ks4.below bx
  have vs5 := vs4.below bx
  have b5 : Below w.heap.size w w5 := b4.trans (bx.mono b4.size)
  clear ks4 vs4 b4 bx hc1
  cases he : ov.toList.isEmpty
  · have Q1 := is11_any tk m1 _ _ _ _ _ n c c2 p q w5 (by omega) hp ks5 vs5 hR hc1' (good_of tk p q n hR)
    have Q2 := is11_any ov _ _ _ _ _ _ n c c2 p q w5 (by omega) hp ks5 vs5 hR hc2 (good_over tk ov p q n hR he)
    go_wp2_with fail
    refine Q1.mono ?_
    rintro e w' ⟨rfl, rfl⟩
    go_wp2_with fail
    refine Q2.mono ?_
    rintro e w' ⟨rfl, rfl⟩
    go_wp2
    go_ret
    exact ⟨rfl, b5⟩
  · have Q1 := is11_any tk m1 _ _ _ _ _ n c c2 p q w5 (by omega) hp ks5 vs5 hR hc1' (good_of tk p q n hR)
    have hG2 : Good tk p q n (withKey ov (withKey tk (Mk (kd p) (kd q) n))) (withSz ov (withKey tk (Mk (kd p) (kd q) n)) (withSz tk (Mk (kd p) (kd q) n) (Zk (kd p) (kd q) n))) := by
      have e1 : ∀ M, withKey ov M = M := fun M => by simp [withKey, he]
      have e2 : ∀ M z, withSz ov M z = z := fun M z => by simp [withSz, he]
      rw [e1, e2]; exact good_of tk p q n hR
    have Q2 := is11_any tk _ _ _ _ _ _ n c c2 p q w5 (by omega) hp ks5 vs5 hR hc2 hG2
    go_wp2_with fail
    refine Q1.mono ?_
    rintro e w' ⟨rfl, rfl⟩
    go_wp2_with fail
    refine Q2.mono ?_
    rintro e w' ⟨rfl, rfl⟩
    go_wp2
    go_ret
    exact ⟨rfl, b5⟩
end Go.Proofs.Qxb6615042a
