/- FnNewContextTargetingKeyIsJustTheAttribute: the walk. -/
import Derived.Test.Qxb6615042aCommon
namespace Go.Proofs.Qxb6615042a
open Go.RowKit Go.Maps

/-- The attributes with one more pair behind them. -/
def plus (p : Nat → ByteArray) (n : Nat) (x : ByteArray) (i : Nat) : ByteArray := if i < n then p i else x
theorem Mk_plus (p q : Nat → ByteArray) (n : Nat) (tk : ByteArray) (he : tk.toList.isEmpty = false) :
    withKey ⟨#[]⟩ (Mk (kd (plus p n TK)) (kd (plus q n tk)) (n + 1)) = withKey tk (Mk (kd p) (kd q) n) ∧
    withSz ⟨#[]⟩ (Mk (kd (plus p n TK)) (kd (plus q n tk)) (n + 1)) (Zk (kd (plus p n TK)) (kd (plus q n tk)) (n + 1)) = withSz tk (Mk (kd p) (kd q) n) (Zk (kd p) (kd q) n) := by
  have e0 : (⟨#[]⟩ : ByteArray).toList.isEmpty = true := by rw [ByteArray.toList_eq]; rfl
  obtain ⟨h1, h2⟩ := Mk_congr (kf := kd (plus p n TK)) (vf := kd (plus q n tk)) (kf' := kd p) (vf' := kd q) n (fun i hi => by simp [kd, plus, hi])
  have e1 : kd (plus p n TK) n = TK.data.toList := by simp [kd, plus]
  have e2 : kd (plus q n tk) n = tk.data.toList := by simp [kd, plus]
  constructor
  · simp only [withKey, e0, he, if_true, Bool.false_eq_true, if_false, Mk, h1, e1, e2]
  · simp only [withSz, e0, he, if_true, Bool.false_eq_true, if_false, Zk, h1, h2, e1]

theorem good_empty (tk : ByteArray) (p q : Nat → ByteArray) (n : Nat) (hR : Rises (kl p) n) (he : tk.toList.isEmpty = true) :
    Good ⟨#[]⟩ p q n (withKey ⟨#[]⟩ (withKey tk (Mk (kd p) (kd q) n))) (withSz ⟨#[]⟩ (withKey tk (Mk (kd p) (kd q) n)) (withSz tk (Mk (kd p) (kd q) n) (Zk (kd p) (kd q) n))) := by
  have e1 : withKey tk (Mk (kd p) (kd q) n) = Mk (kd p) (kd q) n := by simp [withKey, he]
  have e2 : withSz tk (Mk (kd p) (kd q) n) (Zk (kd p) (kd q) n) = Zk (kd p) (kd q) n := by simp [withSz, he]
  rw [e1, e2]
  exact good_of ⟨#[]⟩ p q n hR

set_option maxHeartbeats 3200000 in
set_option maxRecDepth 100000 in
theorem law3_ss (tk : ByteArray) (x : Addr) (y : Addr) (n c n2 c2 : Nat) (p q : Nat → ByteArray) (w : World) (htk : tk.size ≤ maxLen)
    (hn : n ≤ maxLen) (hn2 : n2 ≤ maxLen) (hp : ∀ i, (p i).size ≤ maxLen) (hq : ∀ i, (q i).size ≤ maxLen) (hs : Strs w (some x) n p) (hs2 : Strs w (some y) n2 q) :
    Calls Try.prog 3 #[.string tk, .slice (some x) n c, .slice (some y) n2 c2] w fun e w' => e = .returned (.bool true) ∧ Below w.heap.size w w' := by
  have P0 := bytes7_any tk (some x) (some y) n c n2 c2 p q w htk hn hn2 hp hq hs hs2
  have q22 : ∀ (w : World) (a : Option Addr) (n c : Nat), (binOp .neq 22 (.slice a n c) (.slice none 0 0)).run Try.prog w = .ok (.bool (!a.isNone)) w := fun w a n c => run_neq_slice_nil w 22 9 a n c Try.underlying22
  unfold maxLen at htk hn hn2 hp hq
  go_enter Try.func3, Try.ntmps3
  go_wp2_with fail
  refine P0.mono ?_
  rintro e w' ⟨⟨b, rfl, hb⟩, rfl⟩
  clear P0 hp hq
  cases b
  · go_wp2
    go_ret
    exact ⟨rfl, Below.refl _ _⟩
  obtain ⟨t1, ⟨s1, hp⟩, ⟨s2, hq⟩⟩ := hb rfl
  clear hb
  have k1 : ¬ (1048576 : Int) < (tk.size : Int) := by omega
  by_cases h3 : (65536 : Int) < (n : Int)
  · go_wp2
    go_ret
    exact ⟨rfl, Below.refl _ _⟩
  by_cases h4 : (65536 : Int) < (n2 : Int)
  · go_wp2
    go_ret
    exact ⟨rfl, Below.refl _ _⟩
  have m1 := mk22 n (by omega)
  have hr := World.rowIs_made w (.string ⟨#[]⟩) n 9
  have hsa : Strs (w.alloc (.cells (madeCells #[.string ⟨#[]⟩] n) 9)) (some x) n p := hs.below ((Below.refl _ _).alloc (Nat.le_refl _) _)
  have m2 := mk22 n2 (by omega)
  go_wp2_with (first
    | (refine wpList_copy_strs rfl (.tmp 38) (.tmp 39) rfl w.heap.size n n n c (some x) rfl rfl _ hr p hsa (Nat.le_refl _) ?_; intro w1 hr1 ht1; have b1 := ((Below.refl w.heap.size w).alloc (Nat.le_refl _) (.cells (madeCells #[.string ⟨#[]⟩] n) 9)).trans (ht1.below (B := w.heap.size) (by simp) (fun k e => by omega)); have hsb := hs2.below (b1.alloc b1.size (.cells (madeCells #[.string ⟨#[]⟩] n2) 9)))
    | (refine wpList_copy_strs rfl (.tmp 47) (.tmp 48) rfl w1.heap.size n2 n2 n2 c2 (some y) rfl rfl _ (World.rowIs_made w1 (.string ⟨#[]⟩) n2 9) q hsb (Nat.le_refl _) ?_; intro w2 hr2 ht2))
  have b2 : Below w.heap.size w w2 := (b1.alloc b1.size _).trans (ht2.below (B := w.heap.size) (by have := b1.size; simp; omega) (fun k e => by have := b1.size; omega))
  have ks : Strs w2 (some ⟨w.heap.size, 0, none⟩) n p := strs_of_row (ht2.row (hr1.alloc _) (by have := hr1.lt; omega)) (fun i hi => by simp [hi])
  have vs : Strs w2 (some ⟨w1.heap.size, 0, none⟩) n2 q := strs_of_row hr2 (fun i hi => by simp [hi])
  clear m1 m2 hr hsa hsb hs hs2 hr1 hr2 ht1 ht2 q22
  refine (sb8_any _ n n _ p w2 (by omega) (by omega) (by omega) hp ks).mono ?_
  rintro e w' ⟨⟨z, rfl, z0, z1⟩, rfl⟩
  by_cases h5 : (1048576 : Int) < z
  · go_wp2
    go_ret
    exact ⟨rfl, b2⟩
  go_wp2_with fail
  refine (sb8_any _ n2 n2 _ q w2 (by omega) (by omega) (by omega) hq vs).mono ?_
  rintro e w' ⟨⟨z', rfl, z0', z1'⟩, rfl⟩
  by_cases h6 : (1048576 : Int) < z'
  · go_wp2
    go_ret
    exact ⟨rfl, b2⟩
  by_cases h7 : n = n2
  rotate_left
  · have h8 : ((n : Int) != (n2 : Int)) = true := by simp; omega
    go_wp2
    go_ret
    exact ⟨rfl, b2⟩
  subst h7
  go_wp2_with fail
  refine (ord9_any _ n n p w2 (by omega) ks).mono ?_
  rintro e w3 ⟨⟨b, rfl, hR⟩, nd, rfl⟩
  have b3 := Below.drewN b2 nd
  have ks3 : Strs (w2.drewN nd) _ n p := ks
  have vs3 : Strs (w2.drewN nd) _ n q := vs
  clear ks vs b2
  generalize w2.drewN nd = w3 at b3 ks3 vs3
  cases b
  · clear hR
    go_wp2
    go_ret
    exact ⟨rfl, b3⟩
  replace hR := hR rfl
  go_wp2_with fail
  refine (ofstrs_any tk _ _ n n n p q w3 (fun h => by cases h) (by omega) hp ks3 vs3).mono ?_
  rintro e w4 ⟨⟨m1, d1, rfl, hc1, hm1⟩, bx⟩
  have ks4 := ks3.below bx
  have vs4 := vs3.below bx
  have b4 : Below w.heap.size w w4 := b3.trans (bx.mono b3.size)
  clear ks3 vs3 b3 bx
  have hZ : withSz tk (Mk (kd p) (kd q) n) (Zk (kd p) (kd q) n) ≤ n + 1 := by
    have := Zk_le (kd p) (kd q) n
    unfold withSz bump; split
    · omega
    · split <;> omega
  have Q1 := is11_any tk m1 _ _ _ _ _ n n n p q w4 (by omega) hp ks4 vs4 hR hc1 (good_of tk p q n hR)
  go_wp2_with fail
  refine Q1.mono ?_
  rintro e w' ⟨rfl, rfl⟩
  clear Q1
  cases he : tk.toList.isEmpty
  · have m3 := mk22 (n + 1) (by omega)
    have ec : ((n + 1 : Nat) : Int) = (n : Int) + 1 := by omega
    rw [ec] at m3
    clear ec
    have ra := (World.rowIs_made w4 (.string ⟨#[]⟩) (n + 1) 9).alloc (.cells (madeCells #[.string ⟨#[]⟩] (n + 1)) 9)
    have rb := World.rowIs_made (w4.alloc (.cells (madeCells #[.string ⟨#[]⟩] (n + 1)) 9)) (.string ⟨#[]⟩) (n + 1) 9
    have sza : (w4.alloc (.cells (madeCells #[.string ⟨#[]⟩] (n + 1)) 9)).heap.size = w4.heap.size + 1 := by simp
    rw [sza] at rb
    have bb : Below w4.heap.size w4 ((w4.alloc (.cells (madeCells #[.string ⟨#[]⟩] (n + 1)) 9)).alloc (.cells (madeCells #[.string ⟨#[]⟩] (n + 1)) 9)) := ((Below.refl _ _).alloc (Nat.le_refl _) _).alloc (by simp) _
    have ksb := ks4.below bb
    have vsb := vs4.below bb
    clear sza
    go_wp2_with (first
      | (refine wpList_copy_strs rfl (.tmp 98) (.tmp 99) rfl w4.heap.size (n + 1) (n + 1) n n _ rfl rfl _ ra p ksb (Nat.le_succ _) ?_; intro w5 r5 t5; have rb5 := t5.row rb (by omega); have bel5 := bb.trans (t5.below (B := w4.heap.size) (by simp; omega) (fun k e => by omega)); have vs5 := vs4.below bel5)
      | (refine wpList_copy_strs rfl (.tmp 101) (.tmp 102) rfl (w4.heap.size + 1) (n + 1) (n + 1) n n _ rfl rfl _ rb5 q vs5 (Nat.le_succ _) ?_; intro w6 r6 t6; have ra6 := t6.row r5 (by omega); have bel6 := bel5.trans (t6.below (B := w4.heap.size) bel5.size (fun k e => by omega)); have cA := ra6.cell (i := n) (by omega); have fA := ra6.frozen n; have cB := r6.cell (i := n) (by omega); have fB := r6.frozen n))
    have rA := (ra6.set n (.string TK)).setOther (a := ⟨w4.heap.size + 1, n, none⟩) (by simp) (.string tk)
    have rB := (r6.setOther (a := ⟨w4.heap.size, n, none⟩) (by simp) (.string TK)).set n (.string tk)
    have bel7 := (bel6.setCell (p := ⟨w4.heap.size, n, none⟩) (Nat.le_refl _) (.string TK)).setCell (p := ⟨w4.heap.size + 1, n, none⟩) (by simp) (.string tk)
    generalize hw7 : (w6.setCell ⟨w4.heap.size, n, none⟩ (.string TK)).setCell ⟨w4.heap.size + 1, n, none⟩ (.string tk) = w7 at rA rB bel7
    have hw8 : (w6.setCell ⟨w4.heap.size, n, none⟩ (.string ⟨#[116, 97, 114, 103, 101, 116, 105, 110, 103, 75, 101, 121]⟩)).setCell ⟨w4.heap.size + 1, n, none⟩ (.string tk) = w7 := hw7
    rw [hw8]
    clear hw7 hw8 ra rb r5 rb5 ra6 r6 t5 t6 ksb vsb vs5 cA cB fA fB bb bel5 bel6 m3
    have ks7 : Strs w7 (some ⟨w4.heap.size, 0, none⟩) (n + 1) (plus p n TK) := strs_of_row rA (fun i hi => by
      by_cases e : i = n
      · subst e; simp [plus]
      · simp [plus, e, show i < n by omega])
    have vs7 : Strs w7 (some ⟨w4.heap.size + 1, 0, none⟩) (n + 1) (plus q n tk) := strs_of_row rB (fun i hi => by
      by_cases e : i = n
      · subst e; simp [plus]
      · simp [plus, e, show i < n by omega])
    have ks4' := ks4.below bel7
    have vs4' := vs4.below bel7
    have b7 : Below w.heap.size w w7 := b4.trans (bel7.mono b4.size)
    clear rA rB ks4 vs4 b4 bel7 hc1
    refine (ofstrs_any ⟨#[]⟩ _ _ (n + 1) (n + 1) (n + 1) (plus p n TK) (plus q n tk) w7 (fun h => by cases h) (by omega) (fun i hi => by
      unfold plus; split
      · exact hp i (by assumption)
      · decide) ks7 vs7).mono ?_
    rintro e w8 ⟨⟨m2, d2, rfl, hc2, hm2⟩, by8⟩
    obtain ⟨eM, eS⟩ := Mk_plus p q n tk he
    rw [eM, eS] at hc2
    clear eM eS
    have ks8 := ks4'.below by8
    have vs8 := vs4'.below by8
    have b8 : Below w.heap.size w w8 := b7.trans (by8.mono b7.size)
    clear ks7 vs7 ks4' vs4' b7 by8
    have Q2 := is11_any tk m2 _ _ _ _ _ n n n p q w8 (by omega) hp ks8 vs8 hR hc2 (good_of tk p q n hR)
    go_wp2_with fail
    refine Q2.mono ?_
    rintro e w' ⟨rfl, rfl⟩
    go_wp2
    go_ret
    exact ⟨rfl, b8⟩
  · go_wp2_with fail
    refine (newctx_some ⟨#[]⟩ m1 d1 _ _ w4 hc1 (by omega)).mono ?_
    rintro e w5 ⟨rfl, hc2, hc1', bx⟩
    have ks5 := ks4.below bx
    have vs5 := vs4.below bx
    have b5 : Below w.heap.size w w5 := b4.trans (bx.mono b4.size)
    clear ks4 vs4 b4 bx hc1
    have Q2 := is11_any ⟨#[]⟩ _ _ _ _ _ _ n n n p q w5 (by omega) hp ks5 vs5 hR hc2 (good_empty tk p q n hR he)
    go_wp2_with fail
    refine Q2.mono ?_
    rintro e w' ⟨rfl, rfl⟩
    go_wp2
    go_ret
    exact ⟨rfl, b5⟩

set_option maxHeartbeats 3200000 in
set_option maxRecDepth 100000 in
theorem law3_sz (tk : ByteArray) (x : Addr) (n c n2 c2 : Nat) (p q : Nat → ByteArray) (w : World) (htk : tk.size ≤ maxLen)
    (hn : n ≤ maxLen) (hn2 : n2 ≤ maxLen) (hp : ∀ i, (p i).size ≤ maxLen) (hq : ∀ i, (q i).size ≤ maxLen) (hs : Strs w (some x) n p) (hs2 : Strs w none n2 q) (hz2 : n2 = 0) :
    Calls Try.prog 3 #[.string tk, .slice (some x) n c, .slice none n2 c2] w fun e w' => e = .returned (.bool true) ∧ Below w.heap.size w w' := by
  have P0 := bytes7_any tk (some x) none n c n2 c2 p q w htk hn hn2 hp hq hs hs2
  have q22 : ∀ (w : World) (a : Option Addr) (n c : Nat), (binOp .neq 22 (.slice a n c) (.slice none 0 0)).run Try.prog w = .ok (.bool (!a.isNone)) w := fun w a n c => run_neq_slice_nil w 22 9 a n c Try.underlying22
  unfold maxLen at htk hn hn2 hp hq
  have HZ2 : Hid (n2 = 0) := hz2
  clear hz2
  go_enter Try.func3, Try.ntmps3
  go_wp2_with fail
  refine P0.mono ?_
  rintro e w' ⟨⟨b, rfl, hb⟩, rfl⟩
  clear P0 hp hq
  cases b
  · go_wp2
    go_ret
    exact ⟨rfl, Below.refl _ _⟩
  obtain ⟨t1, ⟨s1, hp⟩, ⟨s2, hq⟩⟩ := hb rfl
  clear hb
  have k1 : ¬ (1048576 : Int) < (tk.size : Int) := by omega
  by_cases h3 : (65536 : Int) < (n : Int)
  · go_wp2
    go_ret
    exact ⟨rfl, Below.refl _ _⟩
  by_cases h4 : (65536 : Int) < (n2 : Int)
  · go_wp2
    go_ret
    exact ⟨rfl, Below.refl _ _⟩
  have m1 := mk22 n (by omega)
  have hr := World.rowIs_made w (.string ⟨#[]⟩) n 9
  have hsa : Strs (w.alloc (.cells (madeCells #[.string ⟨#[]⟩] n) 9)) (some x) n p := hs.below ((Below.refl _ _).alloc (Nat.le_refl _) _)
  go_wp2_with (first
    | (refine wpList_copy_strs rfl (.tmp 38) (.tmp 39) rfl w.heap.size n n n c (some x) rfl rfl _ hr p hsa (Nat.le_refl _) ?_; intro w1 hr1 ht1; have b1 := ((Below.refl w.heap.size w).alloc (Nat.le_refl _) (.cells (madeCells #[.string ⟨#[]⟩] n) 9)).trans (ht1.below (B := w.heap.size) (by simp) (fun k e => by omega))))
  have b2 : Below w.heap.size w w1 := b1
  have ks : Strs w1 (some ⟨w.heap.size, 0, none⟩) n p := strs_of_row hr1 (fun i hi => by simp [hi])
  have vs : Strs w1 none n2 q := hs2.below b1
  clear m1 hr hsa hs hs2 hr1 ht1 q22 b1
  refine (sb8_any _ n n _ p w1 (by omega) (by omega) (by omega) hp ks).mono ?_
  rintro e w' ⟨⟨z, rfl, z0, z1⟩, rfl⟩
  by_cases h5 : (1048576 : Int) < z
  · go_wp2
    go_ret
    exact ⟨rfl, b2⟩
  go_wp2_with fail
  refine (sb8_any _ n2 c2 _ q w1 (by omega) (by omega) (by omega) hq vs).mono ?_
  rintro e w' ⟨⟨z', rfl, z0', z1'⟩, rfl⟩
  by_cases h6 : (1048576 : Int) < z'
  · go_wp2
    go_ret
    exact ⟨rfl, b2⟩
  by_cases h7 : n = n2
  rotate_left
  · have h8 : ((n : Int) != (n2 : Int)) = true := by simp; omega
    go_wp2
    go_ret
    exact ⟨rfl, b2⟩
  subst h7
  go_wp2_with fail
  refine (ord9_any _ n n p w1 (by omega) ks).mono ?_
  rintro e w3 ⟨⟨b, rfl, hR⟩, nd, rfl⟩
  have b3 := Below.drewN b2 nd
  have ks3 : Strs (w1.drewN nd) _ n p := ks
  have vs3 : Strs (w1.drewN nd) _ n q := vs
  clear ks vs b2
  generalize w1.drewN nd = w3 at b3 ks3 vs3
  cases b
  · clear hR
    go_wp2
    go_ret
    exact ⟨rfl, b3⟩
  replace hR := hR rfl
  go_wp2_with fail
  refine (ofstrs_any tk _ _ n n c2 p q w3 (fun h => by cases h) (by omega) hp ks3 vs3).mono ?_
  rintro e w4 ⟨⟨m1, d1, rfl, hc1, hm1⟩, bx⟩
  have ks4 := ks3.below bx
  have vs4 := vs3.below bx
  have b4 : Below w.heap.size w w4 := b3.trans (bx.mono b3.size)
  clear ks3 vs3 b3 bx
  have hZ : withSz tk (Mk (kd p) (kd q) n) (Zk (kd p) (kd q) n) ≤ n + 1 := by
    have := Zk_le (kd p) (kd q) n
    unfold withSz bump; split
    · omega
    · split <;> omega
  have Q1 := is11_any tk m1 _ _ _ _ _ n n c2 p q w4 (by omega) hp ks4 vs4 hR hc1 (good_of tk p q n hR)
  go_wp2_with fail
  refine Q1.mono ?_
  rintro e w' ⟨rfl, rfl⟩
  clear Q1
  cases he : tk.toList.isEmpty
  · have m3 := mk22 (n + 1) (by omega)
    have ec : ((n + 1 : Nat) : Int) = (n : Int) + 1 := by omega
    rw [ec] at m3
    clear ec
    have ra := (World.rowIs_made w4 (.string ⟨#[]⟩) (n + 1) 9).alloc (.cells (madeCells #[.string ⟨#[]⟩] (n + 1)) 9)
    have rb := World.rowIs_made (w4.alloc (.cells (madeCells #[.string ⟨#[]⟩] (n + 1)) 9)) (.string ⟨#[]⟩) (n + 1) 9
    have sza : (w4.alloc (.cells (madeCells #[.string ⟨#[]⟩] (n + 1)) 9)).heap.size = w4.heap.size + 1 := by simp
    rw [sza] at rb
    have bb : Below w4.heap.size w4 ((w4.alloc (.cells (madeCells #[.string ⟨#[]⟩] (n + 1)) 9)).alloc (.cells (madeCells #[.string ⟨#[]⟩] (n + 1)) 9)) := ((Below.refl _ _).alloc (Nat.le_refl _) _).alloc (by simp) _
    have ksb := ks4.below bb
    have vsb := vs4.below bb
    clear sza
    go_wp2_with (first
      | (refine wpList_copy_strs rfl (.tmp 98) (.tmp 99) rfl w4.heap.size (n + 1) (n + 1) n n _ rfl rfl _ ra p ksb (Nat.le_succ _) ?_; intro w5 r5 t5; have rb5 := t5.row rb (by omega); have bel5 := bb.trans (t5.below (B := w4.heap.size) (by simp; omega) (fun k e => by omega)); have vs5 := vs4.below bel5)
      | (refine wpList_copy_strs rfl (.tmp 101) (.tmp 102) rfl (w4.heap.size + 1) (n + 1) (n + 1) n c2 _ rfl rfl _ rb5 q vs5 (Nat.le_succ _) ?_; intro w6 r6 t6; have ra6 := t6.row r5 (by omega); have bel6 := bel5.trans (t6.below (B := w4.heap.size) bel5.size (fun k e => by omega)); have cA := ra6.cell (i := n) (by omega); have fA := ra6.frozen n; have cB := r6.cell (i := n) (by omega); have fB := r6.frozen n))
    have rA := (ra6.set n (.string TK)).setOther (a := ⟨w4.heap.size + 1, n, none⟩) (by simp) (.string tk)
    have rB := (r6.setOther (a := ⟨w4.heap.size, n, none⟩) (by simp) (.string TK)).set n (.string tk)
    have bel7 := (bel6.setCell (p := ⟨w4.heap.size, n, none⟩) (Nat.le_refl _) (.string TK)).setCell (p := ⟨w4.heap.size + 1, n, none⟩) (by simp) (.string tk)
    generalize hw7 : (w6.setCell ⟨w4.heap.size, n, none⟩ (.string TK)).setCell ⟨w4.heap.size + 1, n, none⟩ (.string tk) = w7 at rA rB bel7
    have hw8 : (w6.setCell ⟨w4.heap.size, n, none⟩ (.string ⟨#[116, 97, 114, 103, 101, 116, 105, 110, 103, 75, 101, 121]⟩)).setCell ⟨w4.heap.size + 1, n, none⟩ (.string tk) = w7 := hw7
    rw [hw8]
    clear hw7 hw8 ra rb r5 rb5 ra6 r6 t5 t6 ksb vsb vs5 cA cB fA fB bb bel5 bel6 m3
    have ks7 : Strs w7 (some ⟨w4.heap.size, 0, none⟩) (n + 1) (plus p n TK) := strs_of_row rA (fun i hi => by
      by_cases e : i = n
      · subst e; simp [plus]
      · simp [plus, e, show i < n by omega])
    have vs7 : Strs w7 (some ⟨w4.heap.size + 1, 0, none⟩) (n + 1) (plus q n tk) := strs_of_row rB (fun i hi => by
      by_cases e : i = n
      · subst e; simp [plus]
      · simp [plus, e, show i < n by omega])
    have ks4' := ks4.below bel7
    have vs4' := vs4.below bel7
    have b7 : Below w.heap.size w w7 := b4.trans (bel7.mono b4.size)
    clear rA rB ks4 vs4 b4 bel7 hc1
    refine (ofstrs_any ⟨#[]⟩ _ _ (n + 1) (n + 1) (n + 1) (plus p n TK) (plus q n tk) w7 (fun h => by cases h) (by omega) (fun i hi => by
      unfold plus; split
      · exact hp i (by assumption)
      · decide) ks7 vs7).mono ?_
    rintro e w8 ⟨⟨m2, d2, rfl, hc2, hm2⟩, by8⟩
    obtain ⟨eM, eS⟩ := Mk_plus p q n tk he
    rw [eM, eS] at hc2
    clear eM eS
    have ks8 := ks4'.below by8
    have vs8 := vs4'.below by8
    have b8 : Below w.heap.size w w8 := b7.trans (by8.mono b7.size)
    clear ks7 vs7 ks4' vs4' b7 by8
    have Q2 := is11_any tk m2 _ _ _ _ _ n n c2 p q w8 (by omega) hp ks8 vs8 hR hc2 (good_of tk p q n hR)
    go_wp2_with fail
    refine Q2.mono ?_
    rintro e w' ⟨rfl, rfl⟩
    go_wp2
    go_ret
    exact ⟨rfl, b8⟩
  · go_wp2_with fail
    refine (newctx_some ⟨#[]⟩ m1 d1 _ _ w4 hc1 (by omega)).mono ?_
    rintro e w5 ⟨rfl, hc2, hc1', bx⟩
    have ks5 := ks4.below bx
    have vs5 := vs4.below bx
    have b5 : Below w.heap.size w w5 := b4.trans (bx.mono b4.size)
    clear ks4 vs4 b4 bx hc1
    have Q2 := is11_any ⟨#[]⟩ _ _ _ _ _ _ n n c2 p q w5 (by omega) hp ks5 vs5 hR hc2 (good_empty tk p q n hR he)
    go_wp2_with fail
    refine Q2.mono ?_
    rintro e w' ⟨rfl, rfl⟩
    go_wp2
    go_ret
    exact ⟨rfl, b5⟩

set_option maxHeartbeats 3200000 in
set_option maxRecDepth 100000 in
theorem law3_zs (tk : ByteArray) (y : Addr) (n c n2 c2 : Nat) (p q : Nat → ByteArray) (w : World) (htk : tk.size ≤ maxLen)
    (hn : n ≤ maxLen) (hn2 : n2 ≤ maxLen) (hp : ∀ i, (p i).size ≤ maxLen) (hq : ∀ i, (q i).size ≤ maxLen) (hs : Strs w none n p) (hs2 : Strs w (some y) n2 q) (hz : n = 0) (hcz : c = 0) :
    Calls Try.prog 3 #[.string tk, .slice none n c, .slice (some y) n2 c2] w fun e w' => e = .returned (.bool true) ∧ Below w.heap.size w w' := by
  have P0 := bytes7_any tk none (some y) n c n2 c2 p q w htk hn hn2 hp hq hs hs2
  have q22 : ∀ (w : World) (a : Option Addr) (n c : Nat), (binOp .neq 22 (.slice a n c) (.slice none 0 0)).run Try.prog w = .ok (.bool (!a.isNone)) w := fun w a n c => run_neq_slice_nil w 22 9 a n c Try.underlying22
  unfold maxLen at htk hn hn2 hp hq
  have HZ : Hid (n = 0 ∧ c = 0) := ⟨hz, hcz⟩
  clear hz hcz
  go_enter Try.func3, Try.ntmps3
  go_wp2_with fail
  refine P0.mono ?_
  rintro e w' ⟨⟨b, rfl, hb⟩, rfl⟩
  clear P0 hp hq
  cases b
  · go_wp2
    go_ret
    exact ⟨rfl, Below.refl _ _⟩
  obtain ⟨t1, ⟨s1, hp⟩, ⟨s2, hq⟩⟩ := hb rfl
  clear hb
  have k1 : ¬ (1048576 : Int) < (tk.size : Int) := by omega
  by_cases h3 : (65536 : Int) < (n : Int)
  · go_wp2
    go_ret
    exact ⟨rfl, Below.refl _ _⟩
  by_cases h4 : (65536 : Int) < (n2 : Int)
  · go_wp2
    go_ret
    exact ⟨rfl, Below.refl _ _⟩
  have m2 := mk22 n2 (by omega)
  have hsb := hs2.below ((Below.refl w.heap.size w).alloc (Nat.le_refl _) (.cells (madeCells #[.string ⟨#[]⟩] n2) 9))
  go_wp2_with (first
    | (refine wpList_copy_strs rfl (.tmp 47) (.tmp 48) rfl w.heap.size n2 n2 n2 c2 (some y) rfl rfl _ (World.rowIs_made w (.string ⟨#[]⟩) n2 9) q hsb (Nat.le_refl _) ?_; intro w2 hr2 ht2))
  have b2 : Below w.heap.size w w2 := ((Below.refl _ _).alloc (Nat.le_refl _) _).trans (ht2.below (B := w.heap.size) (by simp) (fun k e => by omega))
  have ks : Strs w2 none n p := hs.below b2
  have vs : Strs w2 (some ⟨w.heap.size, 0, none⟩) n2 q := strs_of_row hr2 (fun i hi => by simp [hi])
  clear m2 hsb hs hs2 hr2 ht2 q22
  refine (sb8_any _ n c _ p w2 (by omega) (by omega) (by omega) hp ks).mono ?_
  rintro e w' ⟨⟨z, rfl, z0, z1⟩, rfl⟩
  by_cases h5 : (1048576 : Int) < z
  · go_wp2
    go_ret
    exact ⟨rfl, b2⟩
  go_wp2_with fail
  refine (sb8_any _ n2 n2 _ q w2 (by omega) (by omega) (by omega) hq vs).mono ?_
  rintro e w' ⟨⟨z', rfl, z0', z1'⟩, rfl⟩
  by_cases h6 : (1048576 : Int) < z'
  · go_wp2
    go_ret
    exact ⟨rfl, b2⟩
  by_cases h7 : n = n2
  rotate_left
  · have h8 : ((n : Int) != (n2 : Int)) = true := by simp; omega
    go_wp2
    go_ret
    exact ⟨rfl, b2⟩
  subst h7
  go_wp2_with fail
  refine (ord9_any _ n c p w2 (by omega) ks).mono ?_
  rintro e w3 ⟨⟨b, rfl, hR⟩, nd, rfl⟩
  have b3 := Below.drewN b2 nd
  have ks3 : Strs (w2.drewN nd) _ n p := ks
  have vs3 : Strs (w2.drewN nd) _ n q := vs
  clear ks vs b2
  generalize w2.drewN nd = w3 at b3 ks3 vs3
  cases b
  · clear hR
    go_wp2
    go_ret
    exact ⟨rfl, b3⟩
  replace hR := hR rfl
  go_wp2_with fail
  refine (ofstrs_any tk _ _ n c n p q w3 (fun _ => HZ.out) (by omega) hp ks3 vs3).mono ?_
  rintro e w4 ⟨⟨m1, d1, rfl, hc1, hm1⟩, bx⟩
  have ks4 := ks3.below bx
  have vs4 := vs3.below bx
  have b4 : Below w.heap.size w w4 := b3.trans (bx.mono b3.size)
  clear ks3 vs3 b3 bx
  have hZ : withSz tk (Mk (kd p) (kd q) n) (Zk (kd p) (kd q) n) ≤ n + 1 := by
    have := Zk_le (kd p) (kd q) n
    unfold withSz bump; split
    · omega
    · split <;> omega
  have Q1 := is11_any tk m1 _ _ _ _ _ n c n p q w4 (by omega) hp ks4 vs4 hR hc1 (good_of tk p q n hR)
  go_wp2_with fail
  refine Q1.mono ?_
  rintro e w' ⟨rfl, rfl⟩
  clear Q1
  cases he : tk.toList.isEmpty
  · have m3 := mk22 (n + 1) (by omega)
    have ec : ((n + 1 : Nat) : Int) = (n : Int) + 1 := by omega
    rw [ec] at m3
    clear ec
    have ra := (World.rowIs_made w4 (.string ⟨#[]⟩) (n + 1) 9).alloc (.cells (madeCells #[.string ⟨#[]⟩] (n + 1)) 9)
    have rb := World.rowIs_made (w4.alloc (.cells (madeCells #[.string ⟨#[]⟩] (n + 1)) 9)) (.string ⟨#[]⟩) (n + 1) 9
    have sza : (w4.alloc (.cells (madeCells #[.string ⟨#[]⟩] (n + 1)) 9)).heap.size = w4.heap.size + 1 := by simp
    rw [sza] at rb
    have bb : Below w4.heap.size w4 ((w4.alloc (.cells (madeCells #[.string ⟨#[]⟩] (n + 1)) 9)).alloc (.cells (madeCells #[.string ⟨#[]⟩] (n + 1)) 9)) := ((Below.refl _ _).alloc (Nat.le_refl _) _).alloc (by simp) _
    have ksb := ks4.below bb
    have vsb := vs4.below bb
    clear sza
    go_wp2_with (first
      | (refine wpList_copy_strs rfl (.tmp 98) (.tmp 99) rfl w4.heap.size (n + 1) (n + 1) n c _ rfl rfl _ ra p ksb (Nat.le_succ _) ?_; intro w5 r5 t5; have rb5 := t5.row rb (by omega); have bel5 := bb.trans (t5.below (B := w4.heap.size) (by simp; omega) (fun k e => by omega)); have vs5 := vs4.below bel5)
      | (refine wpList_copy_strs rfl (.tmp 101) (.tmp 102) rfl (w4.heap.size + 1) (n + 1) (n + 1) n n _ rfl rfl _ rb5 q vs5 (Nat.le_succ _) ?_; intro w6 r6 t6; have ra6 := t6.row r5 (by omega); have bel6 := bel5.trans (t6.below (B := w4.heap.size) bel5.size (fun k e => by omega)); have cA := ra6.cell (i := n) (by omega); have fA := ra6.frozen n; have cB := r6.cell (i := n) (by omega); have fB := r6.frozen n))
    have rA := (ra6.set n (.string TK)).setOther (a := ⟨w4.heap.size + 1, n, none⟩) (by simp) (.string tk)
    have rB := (r6.setOther (a := ⟨w4.heap.size, n, none⟩) (by simp) (.string TK)).set n (.string tk)
    have bel7 := (bel6.setCell (p := ⟨w4.heap.size, n, none⟩) (Nat.le_refl _) (.string TK)).setCell (p := ⟨w4.heap.size + 1, n, none⟩) (by simp) (.string tk)
    generalize hw7 : (w6.setCell ⟨w4.heap.size, n, none⟩ (.string TK)).setCell ⟨w4.heap.size + 1, n, none⟩ (.string tk) = w7 at rA rB bel7
    have hw8 : (w6.setCell ⟨w4.heap.size, n, none⟩ (.string ⟨#[116, 97, 114, 103, 101, 116, 105, 110, 103, 75, 101, 121]⟩)).setCell ⟨w4.heap.size + 1, n, none⟩ (.string tk) = w7 := hw7
    rw [hw8]
    clear hw7 hw8 ra rb r5 rb5 ra6 r6 t5 t6 ksb vsb vs5 cA cB fA fB bb bel5 bel6 m3
    have ks7 : Strs w7 (some ⟨w4.heap.size, 0, none⟩) (n + 1) (plus p n TK) := strs_of_row rA (fun i hi => by
      by_cases e : i = n
      · subst e; simp [plus]
      · simp [plus, e, show i < n by omega])
    have vs7 : Strs w7 (some ⟨w4.heap.size + 1, 0, none⟩) (n + 1) (plus q n tk) := strs_of_row rB (fun i hi => by
      by_cases e : i = n
      · subst e; simp [plus]
      · simp [plus, e, show i < n by omega])
    have ks4' := ks4.below bel7
    have vs4' := vs4.below bel7
    have b7 : Below w.heap.size w w7 := b4.trans (bel7.mono b4.size)
    clear rA rB ks4 vs4 b4 bel7 hc1
    refine (ofstrs_any ⟨#[]⟩ _ _ (n + 1) (n + 1) (n + 1) (plus p n TK) (plus q n tk) w7 (fun h => by cases h) (by omega) (fun i hi => by
      unfold plus; split
      · exact hp i (by assumption)
      · decide) ks7 vs7).mono ?_
    rintro e w8 ⟨⟨m2, d2, rfl, hc2, hm2⟩, by8⟩
    obtain ⟨eM, eS⟩ := Mk_plus p q n tk he
    rw [eM, eS] at hc2
    clear eM eS
    have ks8 := ks4'.below by8
    have vs8 := vs4'.below by8
    have b8 : Below w.heap.size w w8 := b7.trans (by8.mono b7.size)
    clear ks7 vs7 ks4' vs4' b7 by8
    have Q2 := is11_any tk m2 _ _ _ _ _ n c n p q w8 (by omega) hp ks8 vs8 hR hc2 (good_of tk p q n hR)
    go_wp2_with fail
    refine Q2.mono ?_
    rintro e w' ⟨rfl, rfl⟩
    go_wp2
    go_ret
    exact ⟨rfl, b8⟩
  · go_wp2_with fail
    refine (newctx_some ⟨#[]⟩ m1 d1 _ _ w4 hc1 (by omega)).mono ?_
    rintro e w5 ⟨rfl, hc2, hc1', bx⟩
    have ks5 := ks4.below bx
    have vs5 := vs4.below bx
    have b5 : Below w.heap.size w w5 := b4.trans (bx.mono b4.size)
    clear ks4 vs4 b4 bx hc1
    have Q2 := is11_any ⟨#[]⟩ _ _ _ _ _ _ n c n p q w5 (by omega) hp ks5 vs5 hR hc2 (good_empty tk p q n hR he)
    go_wp2_with fail
    refine Q2.mono ?_
    rintro e w' ⟨rfl, rfl⟩
    go_wp2
    go_ret
    exact ⟨rfl, b5⟩

set_option maxHeartbeats 3200000 in
set_option maxRecDepth 100000 in
theorem law3_zz (tk : ByteArray) (n c n2 c2 : Nat) (p q : Nat → ByteArray) (w : World) (htk : tk.size ≤ maxLen)
    (hn : n ≤ maxLen) (hn2 : n2 ≤ maxLen) (hp : ∀ i, (p i).size ≤ maxLen) (hq : ∀ i, (q i).size ≤ maxLen) (hs : Strs w none n p) (hs2 : Strs w none n2 q) (hz : n = 0) (hcz : c = 0) (hz2 : n2 = 0) :
    Calls Try.prog 3 #[.string tk, .slice none n c, .slice none n2 c2] w fun e w' => e = .returned (.bool true) ∧ Below w.heap.size w w' := by
  have P0 := bytes7_any tk none none n c n2 c2 p q w htk hn hn2 hp hq hs hs2
  have q22 : ∀ (w : World) (a : Option Addr) (n c : Nat), (binOp .neq 22 (.slice a n c) (.slice none 0 0)).run Try.prog w = .ok (.bool (!a.isNone)) w := fun w a n c => run_neq_slice_nil w 22 9 a n c Try.underlying22
  unfold maxLen at htk hn hn2 hp hq
  have HZ : Hid (n = 0 ∧ c = 0) := ⟨hz, hcz⟩
  clear hz hcz
  have HZ2 : Hid (n2 = 0) := hz2
  clear hz2
  go_enter Try.func3, Try.ntmps3
  go_wp2_with fail
  refine P0.mono ?_
  rintro e w' ⟨⟨b, rfl, hb⟩, rfl⟩
  clear P0 hp hq
  cases b
  · go_wp2
    go_ret
    exact ⟨rfl, Below.refl _ _⟩
  obtain ⟨t1, ⟨s1, hp⟩, ⟨s2, hq⟩⟩ := hb rfl
  clear hb
  have k1 : ¬ (1048576 : Int) < (tk.size : Int) := by omega
  by_cases h3 : (65536 : Int) < (n : Int)
  · go_wp2
    go_ret
    exact ⟨rfl, Below.refl _ _⟩
  by_cases h4 : (65536 : Int) < (n2 : Int)
  · go_wp2
    go_ret
    exact ⟨rfl, Below.refl _ _⟩
  go_wp2_with fail
  have b2 : Below w.heap.size w w := Below.refl _ _
  have ks : Strs w none n p := hs
  have vs : Strs w none n2 q := hs2
  clear hs hs2 q22
  refine (sb8_any _ n c _ p w (by omega) (by omega) (by omega) hp ks).mono ?_
  rintro e w' ⟨⟨z, rfl, z0, z1⟩, rfl⟩
  by_cases h5 : (1048576 : Int) < z
  · go_wp2
    go_ret
    exact ⟨rfl, b2⟩
  go_wp2_with fail
  refine (sb8_any _ n2 c2 _ q w (by omega) (by omega) (by omega) hq vs).mono ?_
  rintro e w' ⟨⟨z', rfl, z0', z1'⟩, rfl⟩
  by_cases h6 : (1048576 : Int) < z'
  · go_wp2
    go_ret
    exact ⟨rfl, b2⟩
  by_cases h7 : n = n2
  rotate_left
  · have h8 : ((n : Int) != (n2 : Int)) = true := by simp; omega
    go_wp2
    go_ret
    exact ⟨rfl, b2⟩
  subst h7
  go_wp2_with fail
  refine (ord9_any _ n c p w (by omega) ks).mono ?_
  rintro e w3 ⟨⟨b, rfl, hR⟩, nd, rfl⟩
  have b3 := Below.drewN b2 nd
  have ks3 : Strs (w.drewN nd) _ n p := ks
  have vs3 : Strs (w.drewN nd) _ n q := vs
  clear ks vs b2
  generalize w.drewN nd = w3 at b3 ks3 vs3
  cases b
  · clear hR
    go_wp2
    go_ret
    exact ⟨rfl, b3⟩
  replace hR := hR rfl
  go_wp2_with fail
  refine (ofstrs_any tk _ _ n c c2 p q w3 (fun _ => HZ.out) (by omega) hp ks3 vs3).mono ?_
  rintro e w4 ⟨⟨m1, d1, rfl, hc1, hm1⟩, bx⟩
  have ks4 := ks3.below bx
  have vs4 := vs3.below bx
  have b4 : Below w.heap.size w w4 := b3.trans (bx.mono b3.size)
  clear ks3 vs3 b3 bx
  have hZ : withSz tk (Mk (kd p) (kd q) n) (Zk (kd p) (kd q) n) ≤ n + 1 := by
    have := Zk_le (kd p) (kd q) n
    unfold withSz bump; split
    · omega
    · split <;> omega
  have Q1 := is11_any tk m1 _ _ _ _ _ n c c2 p q w4 (by omega) hp ks4 vs4 hR hc1 (good_of tk p q n hR)
  go_wp2_with fail
  refine Q1.mono ?_
  rintro e w' ⟨rfl, rfl⟩
  clear Q1
  cases he : tk.toList.isEmpty
  · have m3 := mk22 (n + 1) (by omega)
    have ec : ((n + 1 : Nat) : Int) = (n : Int) + 1 := by omega
    rw [ec] at m3
    clear ec
    have ra := (World.rowIs_made w4 (.string ⟨#[]⟩) (n + 1) 9).alloc (.cells (madeCells #[.string ⟨#[]⟩] (n + 1)) 9)
    have rb := World.rowIs_made (w4.alloc (.cells (madeCells #[.string ⟨#[]⟩] (n + 1)) 9)) (.string ⟨#[]⟩) (n + 1) 9
    have sza : (w4.alloc (.cells (madeCells #[.string ⟨#[]⟩] (n + 1)) 9)).heap.size = w4.heap.size + 1 := by simp
    rw [sza] at rb
    have bb : Below w4.heap.size w4 ((w4.alloc (.cells (madeCells #[.string ⟨#[]⟩] (n + 1)) 9)).alloc (.cells (madeCells #[.string ⟨#[]⟩] (n + 1)) 9)) := ((Below.refl _ _).alloc (Nat.le_refl _) _).alloc (by simp) _
    have ksb := ks4.below bb
    have vsb := vs4.below bb
    clear sza
    go_wp2_with (first
      | (refine wpList_copy_strs rfl (.tmp 98) (.tmp 99) rfl w4.heap.size (n + 1) (n + 1) n c _ rfl rfl _ ra p ksb (Nat.le_succ _) ?_; intro w5 r5 t5; have rb5 := t5.row rb (by omega); have bel5 := bb.trans (t5.below (B := w4.heap.size) (by simp; omega) (fun k e => by omega)); have vs5 := vs4.below bel5)
      | (refine wpList_copy_strs rfl (.tmp 101) (.tmp 102) rfl (w4.heap.size + 1) (n + 1) (n + 1) n c2 _ rfl rfl _ rb5 q vs5 (Nat.le_succ _) ?_; intro w6 r6 t6; have ra6 := t6.row r5 (by omega); have bel6 := bel5.trans (t6.below (B := w4.heap.size) bel5.size (fun k e => by omega)); have cA := ra6.cell (i := n) (by omega); have fA := ra6.frozen n; have cB := r6.cell (i := n) (by omega); have fB := r6.frozen n))
    have rA := (ra6.set n (.string TK)).setOther (a := ⟨w4.heap.size + 1, n, none⟩) (by simp) (.string tk)
    have rB := (r6.setOther (a := ⟨w4.heap.size, n, none⟩) (by simp) (.string TK)).set n (.string tk)
    have bel7 := (bel6.setCell (p := ⟨w4.heap.size, n, none⟩) (Nat.le_refl _) (.string TK)).setCell (p := ⟨w4.heap.size + 1, n, none⟩) (by simp) (.string tk)
    generalize hw7 : (w6.setCell ⟨w4.heap.size, n, none⟩ (.string TK)).setCell ⟨w4.heap.size + 1, n, none⟩ (.string tk) = w7 at rA rB bel7
    have hw8 : (w6.setCell ⟨w4.heap.size, n, none⟩ (.string ⟨#[116, 97, 114, 103, 101, 116, 105, 110, 103, 75, 101, 121]⟩)).setCell ⟨w4.heap.size + 1, n, none⟩ (.string tk) = w7 := hw7
    rw [hw8]
    clear hw7 hw8 ra rb r5 rb5 ra6 r6 t5 t6 ksb vsb vs5 cA cB fA fB bb bel5 bel6 m3
    have ks7 : Strs w7 (some ⟨w4.heap.size, 0, none⟩) (n + 1) (plus p n TK) := strs_of_row rA (fun i hi => by
      by_cases e : i = n
      · subst e; simp [plus]
      · simp [plus, e, show i < n by omega])
    have vs7 : Strs w7 (some ⟨w4.heap.size + 1, 0, none⟩) (n + 1) (plus q n tk) := strs_of_row rB (fun i hi => by
      by_cases e : i = n
      · subst e; simp [plus]
      · simp [plus, e, show i < n by omega])
    have ks4' := ks4.below bel7
    have vs4' := vs4.below bel7
    have b7 : Below w.heap.size w w7 := b4.trans (bel7.mono b4.size)
    clear rA rB ks4 vs4 b4 bel7 hc1
    refine (ofstrs_any ⟨#[]⟩ _ _ (n + 1) (n + 1) (n + 1) (plus p n TK) (plus q n tk) w7 (fun h => by cases h) (by omega) (fun i hi => by
      unfold plus; split
      · exact hp i (by assumption)
      · decide) ks7 vs7).mono ?_
    rintro e w8 ⟨⟨m2, d2, rfl, hc2, hm2⟩, by8⟩
    obtain ⟨eM, eS⟩ := Mk_plus p q n tk he
    rw [eM, eS] at hc2
    clear eM eS
    have ks8 := ks4'.below by8
    have vs8 := vs4'.below by8
    have b8 : Below w.heap.size w w8 := b7.trans (by8.mono b7.size)
    clear ks7 vs7 ks4' vs4' b7 by8
    have Q2 := is11_any tk m2 _ _ _ _ _ n c c2 p q w8 (by omega) hp ks8 vs8 hR hc2 (good_of tk p q n hR)
    go_wp2_with fail
    refine Q2.mono ?_
    rintro e w' ⟨rfl, rfl⟩
    go_wp2
    go_ret
    exact ⟨rfl, b8⟩
  · go_wp2_with fail
    refine (newctx_some ⟨#[]⟩ m1 d1 _ _ w4 hc1 (by omega)).mono ?_
    rintro e w5 ⟨rfl, hc2, hc1', bx⟩
    have ks5 := ks4.below bx
    have vs5 := vs4.below bx
    have b5 : Below w.heap.size w w5 := b4.trans (bx.mono b4.size)
    clear ks4 vs4 b4 bx hc1
    have Q2 := is11_any ⟨#[]⟩ _ _ _ _ _ _ n c c2 p q w5 (by omega) hp ks5 vs5 hR hc2 (good_empty tk p q n hR he)
    go_wp2_with fail
    refine Q2.mono ?_
    rintro e w' ⟨rfl, rfl⟩
    go_wp2
    go_ret
    exact ⟨rfl, b5⟩

end Go.Proofs.Qxb6615042a
