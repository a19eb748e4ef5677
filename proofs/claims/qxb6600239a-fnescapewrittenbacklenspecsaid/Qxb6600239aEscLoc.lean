import Derived.Test.Qxb6600239aEsc
namespace Go.Proofs.Qxb6600239a
open Go.RowKit
set_option linter.unusedVariables false

/-! ### the plain law -/
theorem hexN_shift (t : Nat → Int) (s i : Nat) : ∀ k, hexN (fun j => t (s + j)) i k = hexN t (s + i) k
  | 0 => rfl
  | k + 1 => by
    simp only [hexN, hexN_shift t s i k]
    rw [show s + (i + k) = s + i + k by omega]
theorem hexR_shift (t : Nat → Int) (n n' s i : Nat) (h1 : i + 4 ≤ n') (h2 : s + i + 4 ≤ n) : hexR (fun j => t (s + j)) n' i = hexR t n (s + i) := by
  unfold hexR
  rw [if_neg (by omega), if_neg (by omega), hexN_shift]
theorem hexR_rest (t : Nat → Int) (n s i : Nat) (h : s ≤ n) : hexR (fun j => t (s + j)) (n - s) i = hexR t n (s + i) := by
  unfold hexR
  by_cases h1 : n < s + i + 4
  · rw [if_pos (by omega), if_pos (by omega)]
  · rw [if_neg (by omega), if_neg (by omega), hexN_shift]

theorem escR_bd (t : Nat → Int) (n s : Nat) (hs : s < n) : s < (escR t n s).2 ∧ (escR t n s).2 ≤ n := by
  unfold escR
  split
  · show s < n ∧ n ≤ n; omega
  · split
    · split
      · show s < n ∧ n ≤ n; omega
      · rename_i r hr
        have := hexR_bd hr
        split
        · rename_i hp
          simp [pre] at hp
          show s < s + 12 ∧ s + 12 ≤ n
          omega
        · show s < s + 6 ∧ s + 6 ≤ n
          omega
    · split
      · show s < s + 2 ∧ s + 2 ≤ n; omega
      · show s < s + 2 ∧ s + 2 ≤ n; omega

theorem escR_cut (t : Nat → Int) (n s : Nat) (hs : s < n) : escR (fun j => t (s + j)) ((escR t n s).2 - s) 0 = ((escR t n s).1, (escR t n s).2 - s) := by
  by_cases h1 : n ≤ s + 1
  · have e : escR t n s = (0, n) := by unfold escR; rw [if_pos h1]
    rw [e]
    show escR _ (n - s) 0 = (0, n - s)
    unfold escR
    rw [if_pos (by omega)]
  · by_cases h2 : t (s + 1) = 117
    · cases hx : hexR t n (s + 2) with
      | none =>
        have e : escR t n s = (0, n) := by unfold escR; rw [if_neg h1, if_pos h2, hx]
        rw [e]
        show escR _ (n - s) 0 = (0, n - s)
        unfold escR
        rw [if_neg (by omega), if_pos (by simpa using h2)]
        have : hexR (fun j => t (s + j)) (n - s) (0 + 2) = none := by rw [hexR_rest t n s (0 + 2) (by omega)]; exact hx
        rw [this]
      | some r =>
        have hb := hexR_bd hx
        by_cases hp : (pre t n s r && low t n s) = true
        · have e : escR t n s = (4, s + 12) := by unfold escR; rw [if_neg h1, if_pos h2, hx]; simp only [hp]; rfl
          rw [e]
          show escR _ (s + 12 - s) 0 = (4, s + 12 - s)
          rw [show s + 12 - s = 12 by omega]
          have hp' := hp
          simp only [Bool.and_eq_true] at hp'
          obtain ⟨hp1, hp2⟩ := hp'
          have hp3 := hp1
          simp [pre] at hp3
          have hn12 : s + 12 ≤ n := hp3.1.1.2
          unfold escR
          rw [if_neg (by omega), if_pos (by simpa using h2)]
          have e1 : hexR (fun j => t (s + j)) 12 (0 + 2) = some r := by rw [hexR_shift t n 12 s (0 + 2) (by omega) (by omega)]; exact hx
          rw [e1]
          have e2 : pre (fun j => t (s + j)) 12 0 r = true := by simp [pre, hp3]
          have e3 : low (fun j => t (s + j)) 12 0 = true := by
            unfold low at hp2 ⊢
            rw [hexR_shift t n 12 s (0 + 8) (by omega) (by omega)]
            simpa using hp2
          simp only [e2, e3]
          rfl
        · have e : escR t n s = (wlen r, s + 6) := by unfold escR; rw [if_neg h1, if_pos h2, hx]; simp only []; rw [if_neg hp]
          rw [e]
          show escR _ (s + 6 - s) 0 = (wlen r, s + 6 - s)
          rw [show s + 6 - s = 6 by omega]
          unfold escR
          rw [if_neg (by omega), if_pos (by simpa using h2)]
          have e1 : hexR (fun j => t (s + j)) 6 (0 + 2) = some r := by rw [hexR_shift t n 6 s (0 + 2) (by omega) (by omega)]; exact hx
          rw [e1]
          have e2 : pre (fun j => t (s + j)) 6 0 r = false := by simp [pre]
          simp only [e2]
          rfl
    · by_cases h3 : t (s + 1) = 47
      · have e : escR t n s = (1, s + 2) := by unfold escR; rw [if_neg h1, if_neg h2, if_pos h3]
        rw [e]
        show escR _ (s + 2 - s) 0 = (1, s + 2 - s)
        rw [show s + 2 - s = 2 by omega]
        unfold escR
        rw [if_neg (by omega), if_neg (by simpa using h2), if_pos (by simpa using h3)]
      · have e : escR t n s = (2, s + 2) := by unfold escR; rw [if_neg h1, if_neg h2, if_neg h3]
        rw [e]
        show escR _ (s + 2 - s) 0 = (2, s + 2 - s)
        rw [show s + 2 - s = 2 by omega]
        unfold escR
        rw [if_neg (by omega), if_neg (by simpa using h2), if_neg (by simpa using h3)]

/-! ### the walk -/
theorem zz17 (a : Option Addr) (n c : Nat) (v : Int) (w : World) (h : n ≤ 1048576) :
    Calls Try.prog 17 #[.slice a n c, .int .i64 v] w fun e w' => e = .returned (.bool true) ∧ w' = w := by
  go_enter Try.func17, Try.ntmps17
  go_wp2
  go_ret
  exact ⟨rfl, rfl⟩

theorem zzesc (b off n cap s : Nat) (t : Nat → Int) (R1 : Int) (R2 : Nat) (w : World) (hn : n ≤ 1048576) (hs : s < n) (hcap : n ≤ cap) (hcm : cap ≤ maxLen) (hc : ∀ j, j < n → w.cell? ⟨b, off + j, none⟩ = some (.int .u8 (t j))) (ht : ∀ j, 0 ≤ t j ∧ t j ≤ 255) (h : escR t n s = (R1, R2)) :
    Calls Try.prog 14 #[.slice (some ⟨b, off, none⟩) n cap, .int .i64 s] w fun e w' => e = .returned (.tuple #[.int .i64 R1, .int .i64 R2]) ∧ w' = w := by
  have hA := esc_any b off n cap s t w hn hs hcap hcm hc ht
  rw [h] at hA
  have HA := hideE hA
  clear hA h hc ht
  go_enter Try.func14, Try.ntmps14
  go_wp2_with (go_at_call 25; refine (HA.out).mono ?_; rintro e w' ⟨rfl, rfl⟩)
  go_ret2
  exact ⟨rfl, rfl⟩
theorem zzesc0 (b off n cap : Nat) (t : Nat → Int) (R1 : Int) (R2 : Nat) (w : World) (hn : n ≤ 1048576) (hs : 0 < n) (hcap : n ≤ cap) (hcm : cap ≤ maxLen) (hc : ∀ j, j < n → w.cell? ⟨b, off + j, none⟩ = some (.int .u8 (t j))) (ht : ∀ j, 0 ≤ t j ∧ t j ≤ 255) (h : escR t n 0 = (R1, R2)) :
    Calls Try.prog 14 #[.slice (some ⟨b, off, none⟩) n cap, .int .i64 0] w fun e w' => e = .returned (.tuple #[.int .i64 R1, .int .i64 R2]) ∧ w' = w :=
  zzesc b off n cap 0 t R1 R2 w hn hs hcap hcm hc ht h

set_option maxHeartbeats 1000000 in
theorem escLocal_main (x : Addr) (n cap s : Nat) (t : Nat → Int) (w : World) (hn : n ≤ 1048576) (hs : s < n) (hc : ∀ i, i < n → w.cell? (x.add i) = some (.int .u8 (t i))) (ht : ∀ j, 0 ≤ t j ∧ t j ≤ 255) :
    Calls Try.prog 6 #[.slice (some x) n cap, .int .i64 s] w fun e w' => e = .returned (.bool true) ∧ Below w.heap.size w w' := by
  obtain ⟨R1, hR1⟩ : ∃ R, (escR t n s).1 = R := ⟨_, rfl⟩
  obtain ⟨R2, hR2⟩ : ∃ R, (escR t n s).2 = R := ⟨_, rfl⟩
  have hb := escR_bd t n s hs
  have hcut := escR_cut t n s hs
  rw [hR2] at hb
  rw [hR1, hR2] at hcut
  have hE : escR t n s = (R1, R2) := by rw [← hR1, ← hR2]
  obtain ⟨b1, b2⟩ := hb
  have HCUT := hideE hcut
  have HE := hideE hE
  have HC := hideE hc
  have HT := hideE ht
  have hml : n ≤ maxLen := by unfold maxLen; omega
  have HML := hideE hml
  clear hR1 hR2 hc ht hcut hE hml
  go_enter Try.func6, Try.ntmps6
  go_wp2_with (first | (go_at_call 17; refine (zz17 _ _ _ _ _ hn).mono ?_; rintro e w' ⟨rfl, rfl⟩) | fail)
  refine (copy_any x n cap t _ hn HC.out).mono ?_
  rintro e w1 ⟨rfl, c1, bel, l1⟩
  have C1 := hideE c1
  have BEL := hideE bel
  clear c1 bel HC
  go_wp2_with fail
  refine (zzesc _ 0 n n s t R1 R2 _ hn hs (Nat.le_refl _) HML.out (by intro j hj; rw [Nat.zero_add]; exact C1.out j hj) HT.out HE.out).mono ?_
  rintro e w' ⟨rfl, rfl⟩
  go_wp2_with fail
  refine (zzesc0 _ s (R2 - s) (n - s) (fun j => t (s + j)) R1 (R2 - s) _ (by omega) (by omega) (by omega) (by have := HML.out; omega) (by intro j hj; exact C1.out (s + j) (by omega)) (fun j => HT.out (s + j)) HCUT.out).mono ?_
  rintro e w' ⟨rfl, rfl⟩
  have hcast : ((R2 - s : Nat) : Int) = (R2 : Int) - s := by omega
  go_wp2
  go_ret
  exact ⟨by simp, BEL.out⟩

end Go.Proofs.Qxb6600239a
