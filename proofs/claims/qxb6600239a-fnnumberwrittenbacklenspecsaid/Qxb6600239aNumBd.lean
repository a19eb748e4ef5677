import Derived.Test.Qxb6600239aNumLoc
namespace Go.Proofs.Qxb6600239a
open Go.RowKit

theorem zz22 (a : Option Addr) (n c : Nat) (v : Int) (w : World) (h : n ≤ 1048576) :
    Calls Try.prog 22 #[.slice a n c, .int .i64 v] w fun e w' => e = .returned (.bool true) ∧ w' = w := by
  go_enter Try.func22, Try.ntmps22
  go_wp2
  go_ret
  exact ⟨rfl, rfl⟩

theorem isDec_yes (c : Int) (w : World) (h1 : 48 ≤ c) (h2 : c ≤ 57) : Calls Try.prog 23 #[.int .u8 c] w fun e w' => e = .returned (.bool true) ∧ w' = w := by
  go_enter Try.func23, Try.ntmps23
  go_wp2
  go_ret
  exact ⟨by simp, rfl⟩
theorem isDec_no (c : Int) (w : World) (h : c < 48 ∨ 57 < c) : Calls Try.prog 23 #[.int .u8 c] w fun e w' => e = .returned (.bool false) ∧ w' = w := by
  rcases h with h | h
  · go_enter Try.func23, Try.ntmps23
    go_wp2
    go_ret
    exact ⟨rfl, rfl⟩
  · go_enter Try.func23, Try.ntmps23
    go_wp2
    go_ret
    exact ⟨by simp; omega, rfl⟩

set_option maxHeartbeats 1000000 in
theorem numBounds_main (x : Addr) (n cap s : Nat) (t : Nat → Int) (w : World) (hn : n ≤ 1048576) (hs : s < n) (hc : ∀ i, i < n → w.cell? (x.add i) = some (.int .u8 (t i))) (ht : ∀ j, 0 ≤ t j ∧ t j ≤ 255) :
    Calls Try.prog 9 #[.slice (some x) n cap, .int .i64 s] w fun e w' => e = .returned (.bool true) ∧ Below w.heap.size w w' := by
  obtain ⟨R1, hR1⟩ : ∃ R, numN t n s = R := ⟨_, rfl⟩
  obtain ⟨R2, hR2⟩ : ∃ R, pF t n s = R := ⟨_, rfl⟩
  have b1 := pF_ge t n s hs
  have b2 := (pF_bd t n s hs).2
  have b3 := numN_pos t n s hs
  have b4 := numN_big t n s hs
  have b5 := pF_gt t n s hs
  have b6 := pF_eq t n s hs
  have b7 : numN t n s ≤ 147457 ∨ numN t n s ≤ 1048576 := by
    by_cases h : 147457 < numN t n s
    · right; rw [b4 h]; omega
    · left; omega
  rw [hR2] at b1 b2 b4 b5 b6
  rw [hR1] at b3 b4 b7
  obtain ⟨c, hcd⟩ : ∃ c, t s = c := ⟨_, rfl⟩
  rw [hcd] at b5 b6
  have htc := ht s
  rw [hcd] at htc
  have HCD := hideN hcd
  have H1 := hideN hR1
  have H2 := hideN hR2
  have HC := hideN hc
  have HT := hideN ht
  have B4 := hideN b4
  have B5 := hideN b5
  have B6 := hideN b6
  clear hR1 hR2 hc ht b4 b5 b6 hcd b7
  go_enter Try.func9, Try.ntmps9
  go_wp2_with (first | (go_at_call 22; refine (zz22 _ _ _ _ _ hn).mono ?_; rintro e w' ⟨rfl, rfl⟩) | fail)
  refine (copy_any x n cap t _ hn HC.out).mono ?_
  rintro e w1 ⟨rfl, c1, bel, l1⟩
  have hcs := c1 s hs
  rw [HCD.out] at hcs
  have C1 := hideN c1
  have BEL := hideN bel
  clear c1 bel HC
  go_wp2_with fail
  refine (zznum _ 0 n n s t R1 R2 _ hn hs (by intro j hj; rw [Nat.zero_add]; exact C1.out j hj) HT.out H1.out H2.out).mono ?_
  rintro e w' ⟨rfl, rfl⟩
  clear C1 HT H1 H2 HCD
  have hcase : (R1 ≤ 147457) ∨ (147457 < R1 ∧ R1 = (R2 : Int) - s) := by
    by_cases h : 147457 < R1
    · exact .inr ⟨h, B4.out h⟩
    · exact .inl (by omega)
  clear B4
  have hc6 : (45 ≤ c ∧ c ≤ 45) ∨ (48 ≤ c ∧ c ≤ 57) ∨ (46 ≤ c ∧ c ≤ 46) ∨ (101 ≤ c ∧ c ≤ 101) ∨ (69 ≤ c ∧ c ≤ 69) ∨ ((c == 45) = false ∧ (c < 48 ∨ 57 < c) ∧ (c == 46) = false ∧ (c == 101) = false ∧ (c == 69) = false) := by
    simp only [beq_eq_false_iff_ne]
    omega
  rcases hcase with hR | ⟨hR, hRe⟩
  · rcases hc6 with ⟨k1, k2⟩ | ⟨k1, k2⟩ | ⟨k1, k2⟩ | ⟨k1, k2⟩ | ⟨k1, k2⟩ | ⟨k1, k2, k3, k4, k5⟩
    · have hgt : s < R2 := B5.out (by omega)
      clear B5 B6
      go_wp2_with (first | (go_at_call 23; refine (isDec_no _ _ (by omega)).mono ?_; rintro e w' ⟨rfl, rfl⟩) | fail)
      go_ret
      exact ⟨by first | rfl | (simp; done) | (simp; omega), BEL.out⟩
    · have hgt : s < R2 := B5.out (by omega)
      clear B5 B6
      go_wp2_with (first | (go_at_call 23; refine (isDec_yes _ _ (by omega) (by omega)).mono ?_; rintro e w' ⟨rfl, rfl⟩) | fail)
      go_ret
      exact ⟨by first | rfl | (simp; done) | (simp; omega), BEL.out⟩
    · have hgt : s < R2 := B5.out (by omega)
      clear B5 B6
      go_wp2_with (first | (go_at_call 23; refine (isDec_no _ _ (by omega)).mono ?_; rintro e w' ⟨rfl, rfl⟩) | fail)
      go_ret
      exact ⟨by first | rfl | (simp; done) | (simp; omega), BEL.out⟩
    · have hgt : s < R2 := B5.out (by omega)
      clear B5 B6
      go_wp2_with (first | (go_at_call 23; refine (isDec_no _ _ (by omega)).mono ?_; rintro e w' ⟨rfl, rfl⟩) | fail)
      go_ret
      exact ⟨by first | rfl | (simp; done) | (simp; omega), BEL.out⟩
    · have hgt : s < R2 := B5.out (by omega)
      clear B5 B6
      go_wp2_with (first | (go_at_call 23; refine (isDec_no _ _ (by omega)).mono ?_; rintro e w' ⟨rfl, rfl⟩) | fail)
      go_ret
      exact ⟨by first | rfl | (simp; done) | (simp; omega), BEL.out⟩
    · have hgt : s = R2 := by have := (B6.out ⟨by simpa using k1, by omega, by simpa using k3, by simpa using k4, by simpa using k5⟩).2.2.2.1; omega
      subst hgt
      clear B5 B6
      go_wp2_with (first | (go_at_call 23; refine (isDec_no _ _ k2).mono ?_; rintro e w' ⟨rfl, rfl⟩) | fail)
      go_ret
      exact ⟨by first | rfl | (simp; done) | (simp; omega), BEL.out⟩
  · have hRe' := hideN hRe
    subst hRe
    rcases hc6 with ⟨k1, k2⟩ | ⟨k1, k2⟩ | ⟨k1, k2⟩ | ⟨k1, k2⟩ | ⟨k1, k2⟩ | ⟨k1, k2, k3, k4, k5⟩
    · have hgt : s < R2 := B5.out (by omega)
      clear B5 B6
      go_wp2_with (first | (go_at_call 23; refine (isDec_no _ _ (by omega)).mono ?_; rintro e w' ⟨rfl, rfl⟩) | fail)
      go_ret
      exact ⟨by first | rfl | (simp; done) | (simp; omega), BEL.out⟩
    · have hgt : s < R2 := B5.out (by omega)
      clear B5 B6
      go_wp2_with (first | (go_at_call 23; refine (isDec_yes _ _ (by omega) (by omega)).mono ?_; rintro e w' ⟨rfl, rfl⟩) | fail)
      go_ret
      exact ⟨by first | rfl | (simp; done) | (simp; omega), BEL.out⟩
    · have hgt : s < R2 := B5.out (by omega)
      clear B5 B6
      go_wp2_with (first | (go_at_call 23; refine (isDec_no _ _ (by omega)).mono ?_; rintro e w' ⟨rfl, rfl⟩) | fail)
      go_ret
      exact ⟨by first | rfl | (simp; done) | (simp; omega), BEL.out⟩
    · have hgt : s < R2 := B5.out (by omega)
      clear B5 B6
      go_wp2_with (first | (go_at_call 23; refine (isDec_no _ _ (by omega)).mono ?_; rintro e w' ⟨rfl, rfl⟩) | fail)
      go_ret
      exact ⟨by first | rfl | (simp; done) | (simp; omega), BEL.out⟩
    · have hgt : s < R2 := B5.out (by omega)
      clear B5 B6
      go_wp2_with (first | (go_at_call 23; refine (isDec_no _ _ (by omega)).mono ?_; rintro e w' ⟨rfl, rfl⟩) | fail)
      go_ret
      exact ⟨by first | rfl | (simp; done) | (simp; omega), BEL.out⟩
    · have hgt : s = R2 := by have := (B6.out ⟨by simpa using k1, by omega, by simpa using k3, by simpa using k4, by simpa using k5⟩).2.2.2.1; omega
      omega

end Go.Proofs.Qxb6600239a
