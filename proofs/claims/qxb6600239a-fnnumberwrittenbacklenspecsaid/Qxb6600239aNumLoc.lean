import Derived.Test.Qxb6600239aNumW
import Derived.Test.Qxb6600239aNumL
namespace Go.Proofs.Qxb6600239a
open Go.RowKit

theorem zz21 (a : Option Addr) (n c : Nat) (v : Int) (w : World) (h : n ≤ 1048576) :
    Calls Try.prog 21 #[.slice a n c, .int .i64 v] w fun e w' => e = .returned (.bool true) ∧ w' = w := by
  go_enter Try.func21, Try.ntmps21
  go_wp2
  go_ret
  exact ⟨rfl, rfl⟩

/-- ZZnumberWrittenBackLen is numberWrittenBackLen -/
theorem zznum (b off n cap s : Nat) (t : Nat → Int) (R1 : Int) (R2 : Nat) (w : World) (hn : n ≤ 1048576) (hs : s < n) (hc : ∀ j, j < n → w.cell? ⟨b, off + j, none⟩ = some (.int .u8 (t j))) (ht : ∀ j, 0 ≤ t j ∧ t j ≤ 255) (h1 : numN t n s = R1) (h2 : pF t n s = R2) :
    Calls Try.prog 19 #[.slice (some ⟨b, off, none⟩) n cap, .int .i64 s] w fun e w' => e = .returned (.tuple #[.int .i64 R1, .int .i64 R2]) ∧ w' = w := by
  subst h1 h2
  go_enter Try.func19, Try.ntmps19
  go_wp2_with (go_at_call 29; refine (num_any b off n cap s t _ hn hs hc ht).mono ?_; rintro e w' ⟨rfl, rfl⟩)
  go_ret2
  exact ⟨rfl, rfl⟩

theorem zznum0 (b off n cap : Nat) (t : Nat → Int) (R1 : Int) (R2 : Nat) (w : World) (hn : n ≤ 1048576) (hs : 0 < n) (hc : ∀ j, j < n → w.cell? ⟨b, off + j, none⟩ = some (.int .u8 (t j))) (ht : ∀ j, 0 ≤ t j ∧ t j ≤ 255) (h1 : numN t n 0 = R1) (h2 : pF t n 0 = R2) :
    Calls Try.prog 19 #[.slice (some ⟨b, off, none⟩) n cap, .int .i64 0] w fun e w' => e = .returned (.tuple #[.int .i64 R1, .int .i64 R2]) ∧ w' = w :=
  zznum b off n cap 0 t R1 R2 w hn hs hc ht h1 h2

set_option maxHeartbeats 1000000 in
theorem numLocal_main (x : Addr) (n cap s : Nat) (t : Nat → Int) (w : World) (hn : n ≤ 1048576) (hs : s < n) (hc : ∀ i, i < n → w.cell? (x.add i) = some (.int .u8 (t i))) (ht : ∀ j, 0 ≤ t j ∧ t j ≤ 255) :
    Calls Try.prog 8 #[.slice (some x) n cap, .int .i64 s] w fun e w' => e = .returned (.bool true) ∧ Below w.heap.size w w' := by
  obtain ⟨R1, hR1⟩ : ∃ R, numN t n s = R := ⟨_, rfl⟩
  obtain ⟨R2, hR2⟩ : ∃ R, pF t n s = R := ⟨_, rfl⟩
  have b1 := pF_ge t n s hs
  have b2 := (pF_bd t n s hs).2
  rw [hR2] at b1 b2
  have H1 := hideN hR1
  have H2 := hideN hR2
  have HC := hideN hc
  have HT := hideN ht
  clear hR1 hR2 hc ht
  go_enter Try.func8, Try.ntmps8
  go_wp2_with (first | (go_at_call 21; refine (zz21 _ _ _ _ _ hn).mono ?_; rintro e w' ⟨rfl, rfl⟩) | fail)
  refine (copy_any x n cap t _ hn HC.out).mono ?_
  rintro e w1 ⟨rfl, c1, bel, l1⟩
  have C1 := hideN c1
  have BEL := hideN bel
  clear c1 bel HC
  go_wp2_with fail
  refine (zznum _ 0 n n s t R1 R2 _ hn hs (by intro j hj; rw [Nat.zero_add]; exact C1.out j hj) HT.out H1.out H2.out).mono ?_
  rintro e w' ⟨rfl, rfl⟩
  by_cases hgt : s < R2
  · have e1 := hideN (cut_numN t n s hs (e := R2) (by rw [H2.out]; exact Nat.le_refl _) b2 hgt)
    have e2 := hideN (cut_pF t n s hs (e := R2) (by rw [H2.out]; exact Nat.le_refl _) b2 hgt)
    go_wp2_with fail
    refine (zznum0 _ s (R2 - s) (n - s) (fun j => t (s + j)) R1 (R2 - s) _ (by omega) (by omega) (by intro j hj; exact C1.out (s + j) (by omega)) (fun j => HT.out (s + j)) (by rw [e1.out, H1.out]) (by rw [e2.out, H2.out])).mono ?_
    rintro e w' ⟨rfl, rfl⟩
    have hcast : ((R2 - s : Nat) : Int) = (R2 : Int) - s := by omega
    go_wp2
    go_ret
    exact ⟨by simp, BEL.out⟩
  · obtain rfl : s = R2 := by omega
    have e1 := hideN (cut_numN t n s hs (e := s + 1) (by rw [H2.out]; omega) (by omega) (by omega))
    have e2 := hideN (cut_pF t n s hs (e := s + 1) (by rw [H2.out]; omega) (by omega) (by omega))
    rw [show s + 1 - s = 1 by omega] at e1 e2
    go_wp2_with fail
    refine (zznum0 _ s 1 (n - s) (fun j => t (s + j)) R1 0 _ (by omega) (by omega) (by intro j hj; exact C1.out (s + j) (by omega)) (fun j => HT.out (s + j)) (by rw [e1.out, H1.out]) (by rw [e2.out, H2.out]; omega)).mono ?_
    rintro e w' ⟨rfl, rfl⟩
    go_wp2
    go_ret
    exact ⟨by simp, BEL.out⟩

end Go.Proofs.Qxb6600239a
