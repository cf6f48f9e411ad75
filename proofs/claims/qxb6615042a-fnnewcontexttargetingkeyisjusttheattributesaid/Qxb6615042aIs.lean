/- zzContextIs: it says true of a context that holds what it should. -/
import Derived.Test.Qxb6615042aCtx
namespace Go.Proofs.Qxb6615042a
open Go.RowKit Go.Maps

theorem kl_kd (p : Nat → ByteArray) (i : Nat) : kl p i = kd p i := ByteArray.toList_eq _

/-- A CONTEXT THAT IS WHAT IT SHOULD BE: the attributes, a non-empty tk standing at the key. -/
structure Good (tk : ByteArray) (p q : Nat → ByteArray) (n : Nat) (M : MapF) (sz : Nat) : Prop where
  plain : tk.toList.isEmpty = true → ∀ i, i < n → M (kd p i) = some (kd q i)
  other : tk.toList.isEmpty = false → ∀ i, i < n → kd p i ≠ TK.data.toList → M (kd p i) = some (kd q i)
  key : tk.toList.isEmpty = false → M TK.data.toList = some tk.data.toList
  size : tk.toList.isEmpty = true → sz = n
  sizeIn : tk.toList.isEmpty = false → ∀ i, i < n → kd p i = TK.data.toList → sz = n
  sizeOut : tk.toList.isEmpty = false → (∀ i, i < n → kd p i ≠ TK.data.toList) → sz = n + 1

set_option maxHeartbeats 1600000 in
theorem is11_empty (tk : ByteArray) (b m sz : Nat) (M : MapF) (a a2 : Option Addr) (n c c2 : Nat) (p q : Nat → ByteArray) (w : World) (hn : n ≤ 131072) (hp : ∀ i, i < n → (p i).size ≤ 1048576) (hs : Strs w a n p) (hs2 : Strs w a2 n q)
    (hc : CtxIs w b m M sz) (hG : Good tk p q n M sz) (he : tk.toList.isEmpty = true) :
    Calls Try.prog 11 #[.map (some b), .string tk, .slice a n c, .slice a2 n c2] w fun e w' => e = .returned (.bool true) ∧ w = w' := by
  have PL := len25_any b m sz M w hc
  rw [hG.size he] at PL
  go_enter Try.func11, Try.ntmps11
  go_wp2_with fail
  refine PL.mono ?_
  rintro e w' ⟨rfl, rfl⟩
  clear PL
  go_wp2
  go_loop [10] (fun i => ∃ k : Nat, k ≤ n ∧ i = .int .i64 k) (fun i => n - (intOf i).toNat)
  case atStart => exact ⟨0, Nat.zero_le _, rfl⟩
  case round =>
    obtain ⟨k, hk, rfl⟩ := hrel
    by_cases hlt : k < n
    · obtain ⟨b1, o1, rfl, hb1, hcp⟩ := hs (by omega)
      obtain ⟨b2, o2, rfl, hb2, hcq⟩ := hs2 (by omega)
      have ck := hcp k hlt
      have cv := hcq k hlt
      have PS := str26_any b m sz M (p k) (q k) w hc (by have := hp k hlt; unfold maxLen; omega) (hG.plain he k hlt)
      clear hs hs2 hcp hcq hp
      go_wp2_with fail
      refine PS.mono ?_
      rintro e w' ⟨rfl, rfl⟩
      clear PS
      go_wp2
      go_round
      case rel => exact ⟨k + 1, by omega, by go_num⟩
      case measure => simp [intOf]; omega
    · clear hs hs2 hp
      go_wp2
      go_ret
      exact ⟨rfl, rfl⟩

set_option maxHeartbeats 1600000 in
theorem is11_key (tk : ByteArray) (b m sz : Nat) (M : MapF) (a a2 : Option Addr) (n c c2 : Nat) (p q : Nat → ByteArray) (w : World) (hn : n ≤ 131072) (hp : ∀ i, i < n → (p i).size ≤ 1048576) (hs : Strs w a n p) (hs2 : Strs w a2 n q)
    (hR : Rises (kl p) n) (hc : CtxIs w b m M sz) (hG : Good tk p q n M sz) (he : tk.toList.isEmpty = false) :
    Calls Try.prog 11 #[.map (some b), .string tk, .slice a n c, .slice a2 n c2] w fun e w' => e = .returned (.bool true) ∧ w = w' := by
  have PF := find24_any a n c TK p w (by omega) hs hR
  have PK := str26_any b m sz M TK tk w hc (by decide) (hG.key he)
  unfold TK at PF PK
  go_enter Try.func11, Try.ntmps11
  go_wp2_with fail
  refine PF.mono ?_
  rintro e w' ⟨hF, rfl⟩
  clear PF
  have hF2 : ∃ r : Int, e = .returned (.int .i64 r) ∧ ((r = -1 ∧ sz = n + 1) ∨ (0 ≤ r ∧ sz = n)) := by
    rcases hF with ⟨rfl, hno⟩ | ⟨j, hj, rfl, hj2⟩
    · refine ⟨_, rfl, Or.inl ⟨rfl, hG.sizeOut he (fun i hi e => hno i hi (by rw [kl_kd, ByteArray.toList_eq]; exact e))⟩⟩
    · refine ⟨_, rfl, Or.inr ⟨by omega, hG.sizeIn he j hj (by rw [kl_kd, ByteArray.toList_eq] at hj2; exact hj2)⟩⟩
  obtain ⟨r, rfl, hr⟩ := hF2
  clear hF
  have PL := len25_any b m sz M w hc
  rcases hr with ⟨rfl, hz⟩ | ⟨hr, hz⟩
  all_goals
    rw [hz] at PL
    clear hz
    go_wp2_with fail
    refine PL.mono ?_
    rintro e w' ⟨rfl, rfl⟩
    clear PL
    go_wp2
    go_loop [10] (fun i => ∃ k : Nat, k ≤ n ∧ i = .int .i64 k) (fun i => n - (intOf i).toNat)
    case atStart => exact ⟨0, Nat.zero_le _, rfl⟩
    case round =>
      obtain ⟨k, hk, rfl⟩ := hrel
      by_cases hlt : k < n
      · obtain ⟨b1, o1, rfl, hb1, hcp⟩ := hs (by omega)
        obtain ⟨b2, o2, rfl, hb2, hcq⟩ := hs2 (by omega)
        have ck := hcp k hlt
        have cv := hcq k hlt
        have hpk : (p k).size ≤ maxLen := by have := hp k hlt; unfold maxLen; omega
        clear PK hs hs2 hcp hcq
        cases hE : ((p k).toList == [116, 97, 114, 103, 101, 116, 105, 110, 103, 75, 101, 121])
        · have PS := str26_any b m sz M (p k) (q k) w hc hpk (hG.other he k hlt (fun e => by
            have e2 : (p k).toList = [116, 97, 114, 103, 101, 116, 105, 110, 103, 75, 101, 121] := (ByteArray.toList_eq _).trans e
            rw [e2] at hE; simp at hE))
          go_wp2_with fail
          refine PS.mono ?_
          rintro e w' ⟨rfl, rfl⟩
          clear PS
          go_wp2
          go_round
          case rel => exact ⟨k + 1, by omega, by go_num⟩
          case measure => simp [intOf]; omega
        · have PS := str26_any b m sz M (p k) tk w hc hpk (by
            have e2 : (p k).toList = [116, 97, 114, 103, 101, 116, 105, 110, 103, 75, 101, 121] := by simpa using hE
            have e3 : kd p k = TK.data.toList := (ByteArray.toList_eq _).symm.trans e2
            show M (kd p k) = _
            rw [e3]; exact hG.key he)
          go_wp2_with fail
          refine PS.mono ?_
          rintro e w' ⟨rfl, rfl⟩
          clear PS
          go_wp2
          go_round
          case rel => exact ⟨k + 1, by omega, by go_num⟩
          case measure => simp [intOf]; omega
      · clear hs hs2 hp
        go_wp2_with fail
        refine PK.mono ?_
        rintro e w' ⟨rfl, rfl⟩
        go_wp2
        go_ret
        exact ⟨rfl, rfl⟩

theorem is11_any (tk : ByteArray) (b m sz : Nat) (M : MapF) (a a2 : Option Addr) (n c c2 : Nat) (p q : Nat → ByteArray) (w : World) (hn : n ≤ 131072) (hp : ∀ i, i < n → (p i).size ≤ 1048576) (hs : Strs w a n p) (hs2 : Strs w a2 n q)
    (hR : Rises (kl p) n) (hc : CtxIs w b m M sz) (hG : Good tk p q n M sz) :
    Calls Try.prog 11 #[.map (some b), .string tk, .slice a n c, .slice a2 n c2] w fun e w' => e = .returned (.bool true) ∧ w = w' := by
  cases he : tk.toList.isEmpty
  · exact is11_key tk b m sz M a a2 n c c2 p q w hn hp hs hs2 hR hc hG he
  · exact is11_empty tk b m sz M a a2 n c c2 p q w hn hp hs hs2 hc hG he

/-! ### the plain law -/
theorem Mk_hit (kf vf : Nat → List UInt8) {N : Nat} (hinj : ∀ i j, i < N → j < N → kf i = kf j → i = j) : ∀ n, n ≤ N → ∀ i, i < n → Mk kf vf n (kf i) = some (vf i)
  | 0, _, i, h => absurd h (Nat.not_lt_zero i)
  | n + 1, hN, i, h => by
    unfold Mk upd
    by_cases e : i = n
    · subst e; simp
    · rw [if_neg (fun e' => e (hinj i n (by omega) (by omega) e'))]
      exact Mk_hit kf vf hinj n (by omega) i (by omega)
theorem Mk_miss (kf vf : Nat → List UInt8) (x : List UInt8) : ∀ n, (∀ i, i < n → kf i ≠ x) → Mk kf vf n x = none
  | 0, _ => rfl
  | n + 1, h => by
    unfold Mk upd
    rw [if_neg (fun e => h n (by omega) e.symm)]
    exact Mk_miss kf vf x n (fun i hi => h i (by omega))
theorem Zk_all (kf vf : Nat → List UInt8) {N : Nat} (hinj : ∀ i j, i < N → j < N → kf i = kf j → i = j) : ∀ n, n ≤ N → Zk kf vf n = n
  | 0, _ => rfl
  | n + 1, hN => by
    unfold Zk
    rw [Mk_miss kf vf (kf n) n (fun i hi e => by have := hinj i n (by omega) (by omega) e; omega), Zk_all kf vf hinj n (by omega)]
    rfl
theorem Mk_congr {kf vf kf' vf' : Nat → List UInt8} : ∀ n, (∀ i, i < n → kf i = kf' i ∧ vf i = vf' i) → Mk kf vf n = Mk kf' vf' n ∧ Zk kf vf n = Zk kf' vf' n
  | 0, _ => ⟨rfl, rfl⟩
  | n + 1, h => by
    obtain ⟨h1, h2⟩ := Mk_congr n (fun i hi => h i (by omega))
    obtain ⟨h3, h4⟩ := h n (by omega)
    unfold Mk Zk
    rw [h1, h2, h3, h4]
    exact ⟨rfl, rfl⟩

/-- The attributes with a key laid over them are what they should be. -/
theorem good_of (tk : ByteArray) (p q : Nat → ByteArray) (n : Nat) (hR : Rises (kl p) n) : Good tk p q n (withKey tk (Mk (kd p) (kd q) n)) (withSz tk (Mk (kd p) (kd q) n) (Zk (kd p) (kd q) n)) := by
  have hinj : ∀ i j, i < n → j < n → kd p i = kd p j → i = j := fun i j hi hj e => hR.inj hi hj (by rw [kl_kd, kl_kd]; exact e)
  have hit := Mk_hit (kd p) (kd q) hinj n (Nat.le_refl _)
  have hZ := Zk_all (kd p) (kd q) hinj n (Nat.le_refl _)
  refine ⟨fun he i hi => ?_, fun he i hi hne => ?_, fun he => ?_, fun he => ?_, fun he i hi e => ?_, fun he h => ?_⟩
  · simp only [withKey, he, if_true]; exact hit i hi
  · simp only [withKey, he, Bool.false_eq_true, if_false, upd, if_neg hne]; exact hit i hi
  · simp [withKey, he, upd]
  · simp only [withSz, he, if_true]; exact hZ
  · simp only [withSz, he, Bool.false_eq_true, if_false, ← e, hit i hi, hZ]; rfl
  · simp only [withSz, he, Bool.false_eq_true, if_false, Mk_miss (kd p) (kd q) _ n h, hZ]; rfl

/-- A second key, laid over the first. -/
theorem good_over (tk ov : ByteArray) (p q : Nat → ByteArray) (n : Nat) (hR : Rises (kl p) n) (he : ov.toList.isEmpty = false) :
    Good ov p q n (withKey ov (withKey tk (Mk (kd p) (kd q) n))) (withSz ov (withKey tk (Mk (kd p) (kd q) n)) (withSz tk (Mk (kd p) (kd q) n) (Zk (kd p) (kd q) n))) := by
  have h1 := good_of tk p q n hR
  have h2 := good_of ov p q n hR
  have hM : withKey ov (withKey tk (Mk (kd p) (kd q) n)) = withKey ov (Mk (kd p) (kd q) n) := by
    funext j
    simp only [withKey, he, Bool.false_eq_true, if_false]
    cases ht : tk.toList.isEmpty
    · simp only [Bool.false_eq_true, if_false, upd]
      by_cases e : j = TK.data.toList
      · rw [if_pos e, if_pos e]
      · rw [if_neg e, if_neg e, if_neg e]
    · simp
  have hS : withSz ov (withKey tk (Mk (kd p) (kd q) n)) (withSz tk (Mk (kd p) (kd q) n) (Zk (kd p) (kd q) n)) = withSz ov (Mk (kd p) (kd q) n) (Zk (kd p) (kd q) n) := by
    cases ht : tk.toList.isEmpty
    · simp only [withSz, withKey, he, ht, Bool.false_eq_true, if_false, upd, if_true]
      simp [bump]
    · simp [withSz, withKey, he, ht]
  rw [hM, hS]
  exact h2
end Go.Proofs.Qxb6615042a
